import JvmDerived
import JvmDerived.Pilot.@@N@@Statement
import JvmDerived.Pilot.@@N@@Code
set_option linter.unusedVariables false
set_option linter.unusedSimpArgs false

/- laws to paste: Road.lenW, Road.empW, Road.codOf, StrChars.pair_says, StrChars.shr0, StrChars.chr8_lo8, StrChars.shr1, StrChars.fits_lo8, Road.wideBytes (cut by pick.py; bodies as the Statement names them) -/
namespace Jvm.Pilot.@@N@@
namespace StrChars
open Jvm Sem ClassFile Op Lib Jvm.Stand Jvm.Free.XT Jvm.Free.ALB Jvm.Free.JM Jvm.Free
open Jvm.Lib.Cold (StaticIs)
/-- a char array whose places are chars -/
def Ch (a : Addr) (A : Cell) (U : State) : Prop := Arr .char a A U ∧ Typed .char A
theorem Ch.mv {a : Addr} {A : Cell} {U U' : State} (h : Ch a A U) (hal : U.vm.Alike U'.vm) (hh : U'.heap = U.heap) : Ch a A U' := ⟨h.1.mv hal hh, h.2⟩
theorem Ch.keep {a : Addr} {A : Cell} {U U' : State} (h : Ch a A U) (hal : U.vm.Alike U'.vm) (hk : U'.heap[a]? = some A) : Ch a A U' := ⟨h.1.keep hal hk, h.2⟩
/-- what place i of a char[]'s cell holds -/
def cv (A : Cell) (i : Nat) : Int32 := match A.slots[i]? with | some (.int x) => x | _ => 0
theorem Ch.get {a : Addr} {A : Cell} {U : State} (h : Ch a A U) {i : Nat} (hi : i < A.slots.size) : A.slots[i]? = some (.int (cv A i)) := by
  have e := Array.getElem?_eq_getElem hi
  have f := h.2 i _ e
  unfold cv; rw [e]
  generalize A.slots[i] = v at f
  cases v <;> simp [fits] at f ⊢
/-- the byte that i2b leaves of a char -/
def lo8 (x : Int32) : Int32 := x.toInt8.toInt32
theorem fits_lo8 (y : Int32) : fits .byte (.int (lo8 y)) = true := by
  have h1 := y.toInt8.le_toInt
  have h2 := y.toInt8.toInt_lt
  simp only [lo8, fits, Bool.and_eq_true, decide_eq_true_eq, Int32.le_iff_toInt_le, Int8.toInt_toInt32, show (-128 : Int32).toInt = -128 from by decide, show (127 : Int32).toInt = 127 from by decide]
  omega
/-- A' is A but that each place j of lo .. hi - 1 holds f j -/
def Laid (A A' : Cell) (lo hi : Nat) (f : Nat → Value) : Prop := A'.cls = A.cls ∧ A'.vm = A.vm ∧ A'.slots.size = A.slots.size ∧ ∀ i, A'.slots[i]? = if lo ≤ i ∧ i < hi then some (f i) else A.slots[i]?
theorem Laid.zero (A : Cell) (lo : Nat) (f : Nat → Value) : Laid A A lo (lo + 0) f := ⟨rfl, rfl, rfl, fun i => by rw [if_neg (by omega)]⟩
theorem Laid.step {A Ak : Cell} {lo k : Nat} {f : Nat → Value} {v : Value} (h : Laid A Ak lo k f) (hlo : lo ≤ k) (hk : k < Ak.slots.size) (hv : v = f k) : Laid A (Ak.setSlot k v) lo (k + 1) f := by
  refine ⟨h.1, h.2.1, by simpa [Cell.setSlot] using h.2.2.1, fun i => ?_⟩
  by_cases e : k = i
  · subst e; rw [Cell.slots_setSlot_self v hk, if_pos (by omega), hv]
  · rw [Cell.slots_setSlot_ne v e, h.2.2.2 i]
    by_cases q : lo ≤ i ∧ i < k
    · rw [if_pos q, if_pos (by omega)]
    · rw [if_neg q, if_neg (by omega)]
def U16 : String := "java/lang/StringUTF16"
namespace Cmp5
def yN : MethodName := ⟨"java/lang/StringUTF16", "compress", "([CI[BII)I"⟩
abbrev yB : ByteArray := jdk_52_method_21_code
theorem d0 : decode yB 0 = .ok (.iconst 0, 1) := by decide +kernel
theorem d1 : decode yB 1 = .ok (.istore 5, 2) := by decide +kernel
theorem d3 : decode yB 3 = .ok (.iload 5, 2) := by decide +kernel
theorem d5 : decode yB 5 = .ok (.iload 4, 2) := by decide +kernel
theorem d7 : decode yB 7 = .ok (.if_icmp (.ge) 37, 3) := by decide +kernel
theorem d10 : decode yB 10 = .ok (.aload_n 0, 1) := by decide +kernel
theorem d11 : decode yB 11 = .ok (.iload_n 1, 1) := by decide +kernel
theorem d12 : decode yB 12 = .ok (.caload, 1) := by decide +kernel
theorem d13 : decode yB 13 = .ok (.istore 6, 2) := by decide +kernel
theorem d15 : decode yB 15 = .ok (.iload 6, 2) := by decide +kernel
theorem d17 : decode yB 17 = .ok (.sipush 255, 3) := by decide +kernel
theorem d20 : decode yB 20 = .ok (.if_icmp (.le) 6, 3) := by decide +kernel
theorem d26 : decode yB 26 = .ok (.aload_n 2, 1) := by decide +kernel
theorem d27 : decode yB 27 = .ok (.iload_n 3, 1) := by decide +kernel
theorem d28 : decode yB 28 = .ok (.iload 6, 2) := by decide +kernel
theorem d30 : decode yB 30 = .ok (.i2b, 1) := by decide +kernel
theorem d31 : decode yB 31 = .ok (.bastore, 1) := by decide +kernel
theorem d32 : decode yB 32 = .ok (.iinc 1 1, 3) := by decide +kernel
theorem d35 : decode yB 35 = .ok (.iinc 3 1, 3) := by decide +kernel
theorem d38 : decode yB 38 = .ok (.iinc 5 1, 3) := by decide +kernel
theorem d41 : decode yB 41 = .ok (.goto (-38), 3) := by decide +kernel
theorem d44 : decode yB 44 = .ok (.iload 4, 2) := by decide +kernel
theorem d46 : decode yB 46 = .ok (.ireturn, 1) := by decide +kernel
def site : List Cond := []
def tab : Cond := tabOf yN yB 7 (some .int) site
def P (b : Addr) (A : Cell) (d : Addr) (B : Cell) (o q len : Nat) (args : Array Value) (s : State) : Prop := args = #[.ref b, .int (Int32.ofNat o), .ref d, .int (Int32.ofNat q), .int (Int32.ofNat len)] ∧ Ch b A s ∧ Arr .byte d B s ∧ b ≠ d ∧ o + len ≤ A.slots.size ∧ q + len ≤ B.slots.size ∧ ∀ i, i < len → ¬ 255 < cv A (o + i)
def E (b : Addr) (A : Cell) (d : Addr) (B : Cell) (o q len : Nat) (r : Option Value) (s u : State) : Prop := r = some (.int (Int32.ofNat len)) ∧ ∃ B', Put d B' s u ∧ Laid B B' q (q + len) (fun j => Value.int (lo8 (cv A (o + (j - q)))))
/-- no char of the range above 255: len; the places written hold each char's low byte -/
theorem law (l : Launch) (b : Addr) (A : Cell) (d : Addr) (B : Cell) (o q len : Nat) : Law l yN 5 5 0 0 yB 7 (some .int) site (P b A d B o q len) (E b A d B o q len) (copyLocs d q len) 0 0 := by
  refine Law.of_walk (plainFor_of_name (by decide +kernel)) (by decide +kernel) (by decide +kernel) (by decide) (fun _ _ h => by rw [h.1]; rfl) (fun _ U U' hal hh h => ⟨h.1, h.2.1.mv hal hh, h.2.2.1.mv hal hh, h.2.2.2⟩) (fun r U U' V V' h1 hal h2 h => ⟨h.1, h.2.elim fun B' q => ⟨B', q.1.mv h1 h2, q.2⟩⟩) ?_
  intro p e s m args below meth c s₁ X0 hexec hbytes hml hret hlk hnm hown hh0 W hP
  obtain ⟨rfl, hA, hB, hne, l1, l2, hp⟩ := hP
  have c1 : Steps p.tables e below (s₁.setTop (entryFrame m #[.ref b, .int (Int32.ofNat o), .ref d, .int (Int32.ofNat q), .int (Int32.ofNat len)] 7)) (s₁.setTop (mkF m 0 #[.val (.ref b), .val (.int (Int32.ofNat o)), .val (.ref d), .val (.int (Int32.ofNat q)), .val (.int (Int32.ofNat len)), .unset, .unset] [])) := entry rfl
  have hA0 := hA.1.mv X0.warmed.alike hh0
  have hB0 := hB.mv X0.warmed.alike hh0
  have a31 := hA.1.2.2.2
  have c2 : Steps p.tables e below (s₁.setTop (entryFrame m #[.ref b, .int (Int32.ofNat o), .ref d, .int (Int32.ofNat q), .int (Int32.ofNat len)] 7)) (s₁.setTop (mkF m 3 #[.val (.ref b), .val (.int (Int32.ofNat o)), .val (.ref d), .val (.int (Int32.ofNat q)), .val (.int (Int32.ofNat len)), .val (.int 0), .unset] [])) := c1.trans (by
    refine iconstV X0.here hexec rfl 0 (hb hbytes d0) (by decide) ?_
    refine XS.istore X0.here hexec rfl (hb hbytes d1) rfl rfl ?_
    exact Steps.refl _)
  have loop : ∀ (r i : Nat), i + r = len → ∀ (z : Slot), (z = .unset ∨ ∃ w, z = .val w ∧ w.category = 1) → ∀ (Tl : State) (Bk : Cell), Stand p l e { frames := 0, locals := 0, cells := 0, slots := 0 } s m #[.ref b, .int (Int32.ofNat o), .ref d, .int (Int32.ofNat q), .int (Int32.ofNat len)] below meth c Tl ([] ++ copyLocs d q i) 0 0 → Put d Bk s₁ Tl → Laid B Bk q (q + i) (fun j => Value.int (lo8 (cv A (o + (j - q))))) →
      Steps p.tables e below (s₁.setTop (entryFrame m #[.ref b, .int (Int32.ofNat o), .ref d, .int (Int32.ofNat q), .int (Int32.ofNat len)] 7)) (Tl.setTop (mkF m 3 #[.val (.ref b), .val (.int (Int32.ofNat (o + i))), .val (.ref d), .val (.int (Int32.ofNat (q + i))), .val (.int (Int32.ofNat len)), .val (.int (Int32.ofNat i)), z] [])) → ∃ (T' : State) (B' : Cell) (z' : Slot), Stand p l e { frames := 0, locals := 0, cells := 0, slots := 0 } s m #[.ref b, .int (Int32.ofNat o), .ref d, .int (Int32.ofNat q), .int (Int32.ofNat len)] below meth c T' ([] ++ copyLocs d q len) 0 0 ∧ Put d B' s₁ T' ∧ Laid B B' q (q + len) (fun j => Value.int (lo8 (cv A (o + (j - q))))) ∧
      Steps p.tables e below (s₁.setTop (entryFrame m #[.ref b, .int (Int32.ofNat o), .ref d, .int (Int32.ofNat q), .int (Int32.ofNat len)] 7)) (T'.setTop (mkF m 3 #[.val (.ref b), .val (.int (Int32.ofNat (o + len))), .val (.ref d), .val (.int (Int32.ofNat (q + len))), .val (.int (Int32.ofNat len)), .val (.int (Int32.ofNat len)), z'] [])) := by
    intro r
    induction r with
    | zero =>
      intro i hi z hz Tl Bk Xl pl fl cl
      have hil : i = len := by omega
      rw [hil] at Xl fl cl
      exact ⟨Tl, Bk, z, Xl, pl, fl, cl⟩
    | succ r ih =>
      intro i hi z hz Tl Bk Xl pl fl cl
      have all := X0.warmed.alike.symm.trans Xl.warmed.alike
      have hAl := hA0.keep all (pl.other hne hA0.1)
      have hBk := hB0.like all pl.1 fl.1 fl.2.1 fl.2.2.1
      have hlt : q + i < Bk.slots.size := by rw [fl.2.2.1]; omega
      have c3 : Steps p.tables e below (s₁.setTop (entryFrame m #[.ref b, .int (Int32.ofNat o), .ref d, .int (Int32.ofNat q), .int (Int32.ofNat len)] 7)) (Tl.setTop (mkF m 12 #[.val (.ref b), .val (.int (Int32.ofNat (o + i))), .val (.ref d), .val (.int (Int32.ofNat (q + i))), .val (.int (Int32.ofNat len)), .val (.int (Int32.ofNat i)), z] [.int (Int32.ofNat (o + i)), .ref b])) := cl.trans (by
        refine XS.iload Xl.here hexec rfl (hb hbytes d3) rfl ?_
        refine XS.iload Xl.here hexec rfl (hb hbytes d5) rfl ?_
        refine XS.icmpNo Xl.here hexec rfl (hb hbytes d7) rfl (ii_ge_f (lt32 (by omega) (by omega))) ?_
        refine XS.aloadN Xl.here hexec rfl (hb hbytes d10) rfl rfl ?_
        refine XS.iloadN Xl.here hexec rfl (hb hbytes d11) rfl ?_
        exact Steps.refl _)
      have c4 : Steps p.tables e below (s₁.setTop (entryFrame m #[.ref b, .int (Int32.ofNat o), .ref d, .int (Int32.ofNat q), .int (Int32.ofNat len)] 7)) (Tl.setTop (mkF m 13 #[.val (.ref b), .val (.int (Int32.ofNat (o + i))), .val (.ref d), .val (.int (Int32.ofNat (q + i))), .val (.int (Int32.ofNat len)), .val (.int (Int32.ofNat i)), z] [.int (cv A (o + i))])) := c3.trans (by
        refine Xl.aget hexec hAl rfl (hA.get (i := o + i) (by omega)) rfl rfl (hb hbytes d12) ?_
        exact Steps.refl _)
      have c5 : Steps p.tables e below (s₁.setTop (entryFrame m #[.ref b, .int (Int32.ofNat o), .ref d, .int (Int32.ofNat q), .int (Int32.ofNat len)] 7)) (Tl.setTop (mkF m 15 #[.val (.ref b), .val (.int (Int32.ofNat (o + i))), .val (.ref d), .val (.int (Int32.ofNat (q + i))), .val (.int (Int32.ofNat len)), .val (.int (Int32.ofNat i)), .val (.int (cv A (o + i)))] [])) := c4.trans (by
        refine XS.istoreS Xl.here hexec rfl (hb hbytes d13) rfl rfl hz ?_
        exact Steps.refl _)
      have c6 : Steps p.tables e below (s₁.setTop (entryFrame m #[.ref b, .int (Int32.ofNat o), .ref d, .int (Int32.ofNat q), .int (Int32.ofNat len)] 7)) (Tl.setTop (mkF m 31 #[.val (.ref b), .val (.int (Int32.ofNat (o + i))), .val (.ref d), .val (.int (Int32.ofNat (q + i))), .val (.int (Int32.ofNat len)), .val (.int (Int32.ofNat i)), .val (.int (cv A (o + i)))] [.int (lo8 (cv A (o + i))), .int (Int32.ofNat (q + i)), .ref d])) := c5.trans (by
        refine XS.iload Xl.here hexec rfl (hb hbytes d15) rfl ?_
        refine sipushV Xl.here hexec rfl 255 (hb hbytes d17) (by decide) ?_
        refine XS.icmpYes Xl.here hexec rfl (pc0 := 20) rfl (hb hbytes d20) rfl (ii_le_t (hp i (by omega))) (by decide) rfl ?_
        refine XS.aloadN Xl.here hexec rfl (hb hbytes d26) rfl rfl ?_
        refine XS.iloadN Xl.here hexec rfl (hb hbytes d27) rfl ?_
        refine XS.iload Xl.here hexec rfl (hb hbytes d28) rfl ?_
        refine i2b Xl.here hexec rfl (hb hbytes d30) rfl ?_
        exact Steps.refl _)
      obtain ⟨T7, X7, p7, st7⟩ := Xl.aput hexec hBk rfl hlt rfl (fits_lo8 (cv A (o + i))) (g := (mkF m 31 #[.val (.ref b), .val (.int (Int32.ofNat (o + i))), .val (.ref d), .val (.int (Int32.ofNat (q + i))), .val (.int (Int32.ofNat len)), .val (.int (Int32.ofNat i)), .val (.int (cv A (o + i)))] [.int (lo8 (cv A (o + i))), .int (Int32.ofNat (q + i)), .ref d])) rfl (rest := []) rfl (hb hbytes d31)
      have c8 : Steps p.tables e below (s₁.setTop (entryFrame m #[.ref b, .int (Int32.ofNat o), .ref d, .int (Int32.ofNat q), .int (Int32.ofNat len)] 7)) (T7.setTop (mkF m 32 #[.val (.ref b), .val (.int (Int32.ofNat (o + i))), .val (.ref d), .val (.int (Int32.ofNat (q + i))), .val (.int (Int32.ofNat len)), .val (.int (Int32.ofNat i)), .val (.int (cv A (o + i)))] [])) := c6.trans (st7 _ (Steps.refl _))
      have c9 : Steps p.tables e below (s₁.setTop (entryFrame m #[.ref b, .int (Int32.ofNat o), .ref d, .int (Int32.ofNat q), .int (Int32.ofNat len)] 7)) (T7.setTop (mkF m 3 #[.val (.ref b), .val (.int (Int32.ofNat (o + i) + 1)), .val (.ref d), .val (.int (Int32.ofNat (q + i) + 1)), .val (.int (Int32.ofNat len)), .val (.int (Int32.ofNat i + 1)), .val (.int (cv A (o + i)))] [])) := c8.trans (by
        refine iincV X7.here hexec rfl 1 (hb hbytes d32) (by decide) rfl rfl ?_
        refine iincV X7.here hexec rfl 1 (hb hbytes d35) (by decide) rfl rfl ?_
        refine iincV X7.here hexec rfl 1 (hb hbytes d38) (by decide) rfl rfl ?_
        refine XS.goto X7.here hexec rfl (pc0 := 41) rfl (hb hbytes d41) (by decide) rfl ?_
        exact Steps.refl _)
      have c10 : Steps p.tables e below (s₁.setTop (entryFrame m #[.ref b, .int (Int32.ofNat o), .ref d, .int (Int32.ofNat q), .int (Int32.ofNat len)] 7)) (T7.setTop (mkF m 3 #[.val (.ref b), .val (.int (Int32.ofNat (o + (i + 1)))), .val (.ref d), .val (.int (Int32.ofNat (q + (i + 1)))), .val (.int (Int32.ofNat len)), .val (.int (Int32.ofNat (i + 1))), .val (.int (cv A (o + i)))] [])) := by
        have := c9
        rw [succ32, succ32, succ32] at this
        exact this
      exact ih (i + 1) (by omega) _ (Or.inr ⟨_, rfl, rfl⟩) T7 _ (by rw [copyLocs_step, ← List.append_assoc]; exact X7) (pl.trans p7) (fl.step (by omega) hlt (by simp)) c10
  obtain ⟨T9, B9, z9, X9, p9, f9, g9⟩ := loop len 0 (by omega) .unset (Or.inl rfl) s₁ B (by simpa [copyLocs] using X0) ⟨hB0.1, fun _ _ => rfl, rfl⟩ (Laid.zero _ _ _) c2
  have c11 : Steps p.tables e below (s₁.setTop (entryFrame m #[.ref b, .int (Int32.ofNat o), .ref d, .int (Int32.ofNat q), .int (Int32.ofNat len)] 7)) (T9.setTop (mkF m 46 #[.val (.ref b), .val (.int (Int32.ofNat (o + len))), .val (.ref d), .val (.int (Int32.ofNat (q + len))), .val (.int (Int32.ofNat len)), .val (.int (Int32.ofNat len)), z9] [.int (Int32.ofNat len)])) := g9.trans (by
    refine XS.iload X9.here hexec rfl (hb hbytes d3) rfl ?_
    refine XS.iload X9.here hexec rfl (hb hbytes d5) rfl ?_
    refine XS.icmpYes X9.here hexec rfl (pc0 := 7) rfl (hb hbytes d7) rfl (ii_ge_t (nlt32 (by omega) (Nat.le_refl _))) (by decide) rfl ?_
    refine XS.iload X9.here hexec rfl (hb hbytes d44) rfl ?_
    exact Steps.refl _)
  exact ⟨T9, some (.int (Int32.ofNat len)), _, _, _, X9, by simp, rfl, rfl, (fun h => by cases h), ⟨rfl, B9, p9.from hh0, f9⟩, fun fs hl => c11.trans (X9.ireturnOut hexec hret rfl (Or.inl rfl) (hb hbytes d46) hl)⟩
end Cmp5
namespace Cmp3
def yN : MethodName := ⟨"java/lang/StringUTF16", "compress", "([CII)[B"⟩
abbrev yB : ByteArray := jdk_52_method_16_code
theorem d0 : decode yB 0 = .ok (.iload_n 2, 1) := by decide +kernel
theorem d1 : decode yB 1 = .ok (.newarray .byte, 2) := by decide +kernel
theorem d3 : decode yB 3 = .ok (.astore_n 3, 1) := by decide +kernel
theorem d4 : decode yB 4 = .ok (.aload_n 0, 1) := by decide +kernel
theorem d5 : decode yB 5 = .ok (.iload_n 1, 1) := by decide +kernel
theorem d6 : decode yB 6 = .ok (.aload_n 3, 1) := by decide +kernel
theorem d7 : decode yB 7 = .ok (.iconst 0, 1) := by decide +kernel
theorem d8 : decode yB 8 = .ok (.iload_n 2, 1) := by decide +kernel
theorem d9 : decode yB 9 = .ok (.invokestatic 115, 3) := by decide +kernel
theorem d12 : decode yB 12 = .ok (.istore 4, 2) := by decide +kernel
theorem d14 : decode yB 14 = .ok (.iload 4, 2) := by decide +kernel
theorem d16 : decode yB 16 = .ok (.iload_n 2, 1) := by decide +kernel
theorem d17 : decode yB 17 = .ok (.if_icmp (.eq) 40, 3) := by decide +kernel
theorem d57 : decode yB 57 = .ok (.aload_n 3, 1) := by decide +kernel
theorem d58 : decode yB 58 = .ok (.areturn, 1) := by decide +kernel
def site : List Cond := [.arrayClass .byte, Cmp5.tab] ++ staticW U16 115 Cmp5.yN
def tab : Cond := tabOf yN yB 6 (some (.array .byte)) site
def P (b : Addr) (A : Cell) (o len : Nat) (args : Array Value) (s : State) : Prop := args = #[.ref b, .int (Int32.ofNat o), .int (Int32.ofNat len)] ∧ Ch b A s ∧ o + len ≤ A.slots.size ∧ len ≤ 536870912 ∧ ∀ i, i < len → ¬ 255 < cv A (o + i)
def E (b : Addr) (A : Cell) (o len : Nat) (r : Option Value) (s u : State) : Prop := NewArr .byte "[B" len (fun j => .int (lo8 (cv A (o + j)))) r s u ∧ u.heap.size = s.heap.size + 1
/-- no char of the range above 255: a new byte[] of their low bytes -/
theorem law (l : Launch) (b : Addr) (A : Cell) (o len : Nat) : Law l yN 3 3 1 18 yB 6 (some (.array .byte)) site (P b A o len) (E b A o len) [] 1 len := by
  refine Law.of_walk (plainFor_of_name (by decide +kernel)) (by decide +kernel) (by decide +kernel) (by decide) (fun _ _ h => by rw [h.1]; rfl) (fun _ U U' hal hh h => ⟨h.1, h.2.1.mv hal hh, h.2.2⟩) (fun r U U' V V' h1 hal h2 h => ⟨NewArr.mv r U U' V V' h1 hal h2 h.1, by rw [h1, h2]; exact h.2⟩) ?_
  intro p e s m args below meth c s₁ X0 hexec hbytes hml hret hlk hnm hown hh0 W hP
  obtain ⟨rfl, hA, l1, l2, hp⟩ := hP
  have a31 := hA.1.2.2.2
  have c1 : Steps p.tables e below (s₁.setTop (entryFrame m #[.ref b, .int (Int32.ofNat o), .int (Int32.ofNat len)] 6)) (s₁.setTop (mkF m 0 #[.val (.ref b), .val (.int (Int32.ofNat o)), .val (.int (Int32.ofNat len)), .unset, .unset, .unset] [])) := entry rfl
  have c2 : Steps p.tables e below (s₁.setTop (entryFrame m #[.ref b, .int (Int32.ofNat o), .int (Int32.ofNat len)] 6)) (s₁.setTop (mkF m 1 #[.val (.ref b), .val (.int (Int32.ofNat o)), .val (.int (Int32.ofNat len)), .unset, .unset, .unset] [.int (Int32.ofNat len)])) := c1.trans (by
    refine XS.iloadN X0.here hexec rfl (hb hbytes d0) rfl ?_
    exact Steps.refl _)
  obtain ⟨T3, B3, X3, ba3, bs3, bv3, bh3, bf3, st3⟩ := X0.anew hexec (atype := .byte) (wk W (.arrayClass .byte)) rfl (by show len * 1 ≤ _; omega) (by omega) (g := (mkF m 1 #[.val (.ref b), .val (.int (Int32.ofNat o)), .val (.int (Int32.ofNat len)), .unset, .unset, .unset] [.int (Int32.ofNat len)])) rfl (hb hbytes d1) (rest := []) rfl (Nat.le_refl _) (by show 0 + len ≤ len; omega)
  rw [hh0] at ba3 st3
  have kp3 : XT.Kept s T3 := (XT.Kept.of_eq hh0).push bh3
  have hA3 := hA.keep X3.warmed.alike (kp3 _ _ hA.1.1)
  have hne : b ≠ s.heap.size := hA.1.ne
  have c4 : Steps p.tables e below (s₁.setTop (entryFrame m #[.ref b, .int (Int32.ofNat o), .int (Int32.ofNat len)] 6)) (T3.setTop (mkF m 3 #[.val (.ref b), .val (.int (Int32.ofNat o)), .val (.int (Int32.ofNat len)), .unset, .unset, .unset] [.ref s.heap.size])) := c2.trans (st3 _ (Steps.refl _))
  have c5 : Steps p.tables e below (s₁.setTop (entryFrame m #[.ref b, .int (Int32.ofNat o), .int (Int32.ofNat len)] 6)) (T3.setTop (mkF m 9 #[.val (.ref b), .val (.int (Int32.ofNat o)), .val (.int (Int32.ofNat len)), .val (.ref s.heap.size), .unset, .unset] [.int (Int32.ofNat len), .int 0, .ref s.heap.size, .int (Int32.ofNat o), .ref b])) := c4.trans (by
    refine XS.astoreN X3.here hexec rfl (hb hbytes d3) rfl rfl rfl ?_
    refine XS.aloadN X3.here hexec rfl (hb hbytes d4) rfl rfl ?_
    refine XS.iloadN X3.here hexec rfl (hb hbytes d5) rfl ?_
    refine XS.aloadN X3.here hexec rfl (hb hbytes d6) rfl rfl ?_
    refine iconstV X3.here hexec rfl 0 (hb hbytes d7) (by decide) ?_
    refine XS.iloadN X3.here hexec rfl (hb hbytes d8) rfl ?_
    exact Steps.refl _)
  obtain ⟨v6, T6, X6, E6, g6⟩ := X3.callS hexec (Cmp5.law l b A s.heap.size B3 o 0 len) hown (wks W (staticW U16 115 Cmp5.yN)) (wk W Cmp5.tab) (W := 0) (Nat.le_of_ble_eq_true rfl) (Nat.le_of_ble_eq_true rfl) (Nat.le_refl _) (by show 0 + len + 0 ≤ len; omega) (g := (mkF m 9 #[.val (.ref b), .val (.int (Int32.ofNat o)), .val (.int (Int32.ofNat len)), .val (.ref s.heap.size), .unset, .unset] [.int (Int32.ofNat len), .int (Int32.ofNat 0), .ref s.heap.size, .int (Int32.ofNat o), .ref b])) rfl (by rw [hml]; rfl) c5 (argsL := [.ref b, .int (Int32.ofNat o), .ref s.heap.size, .int (Int32.ofNat 0), .int (Int32.ofNat len)]) (rest := []) rfl rfl (by show 2 * 0 + 0 ≤ _; decide) (hb hbytes d9) (⟨rfl, hA3, ba3, hne, l1, by rw [bs3]; simp, hp⟩)
  obtain ⟨rfl, B6, p6, f6⟩ := E6
  have c7 : Steps p.tables e below (s₁.setTop (entryFrame m #[.ref b, .int (Int32.ofNat o), .int (Int32.ofNat len)] 6)) (T6.setTop (mkF m 12 #[.val (.ref b), .val (.int (Int32.ofNat o)), .val (.int (Int32.ofNat len)), .val (.ref s.heap.size), .unset, .unset] [.int (Int32.ofNat len)])) := g6
  have c8 : Steps p.tables e below (s₁.setTop (entryFrame m #[.ref b, .int (Int32.ofNat o), .int (Int32.ofNat len)] 6)) (T6.setTop (mkF m 58 #[.val (.ref b), .val (.int (Int32.ofNat o)), .val (.int (Int32.ofNat len)), .val (.ref s.heap.size), .val (.int (Int32.ofNat len)), .unset] [.ref s.heap.size])) := c7.trans (by
    refine XS.istore X6.here hexec rfl (hb hbytes d12) rfl rfl ?_
    refine XS.iload X6.here hexec rfl (hb hbytes d14) rfl ?_
    refine XS.iloadN X6.here hexec rfl (hb hbytes d16) rfl ?_
    refine XS.icmpYes X6.here hexec rfl (pc0 := 17) rfl (hb hbytes d17) rfl (ii_eq_t rfl) (by decide) rfl ?_
    refine XS.aloadN X6.here hexec rfl (hb hbytes d57) rfl rfl ?_
    exact Steps.refl _)
  have X8 := X6.wide (L' := []) (cells' := 1) (slots' := len) (fun x hx hlt => by
    simp only [List.nil_append, copyLocs, List.mem_map, List.mem_range] at hx
    obtain ⟨i, -, rfl⟩ := hx
    exact absurd hlt (Nat.lt_irrefl _)) (Nat.le_refl _) (by omega)
  exact ⟨T6, some (.ref s.heap.size), _, _, _, X8, rfl, rfl, rfl, (fun h => by cases h), ⟨⟨rfl, B6, ba3.like (X3.warmed.alike.symm.trans X6.warmed.alike) p6.1 f6.1 f6.2.1 f6.2.2.1, f6.2.1.trans bv3, by rw [X6.warmed.alike.findClass, f6.1]; exact bf3, by rw [f6.2.2.1, bs3]; simp, fun j hj => by rw [f6.2.2.2 j, if_pos (by omega)]; rfl, kp3.put p6 (Nat.le_refl _)⟩, by rw [p6.2.2, bh3, hh0]; simp⟩, fun fs hl => c8.trans (X8.areturnOut hexec rfl hret rfl (hb hbytes d58) hl)⟩
end Cmp3
namespace CodL
def yN : MethodName := ⟨"java/lang/StringUTF16", "coderFromArrayLen", "([BI)B"⟩
abbrev yB : ByteArray := jdk_52_method_15_code
theorem d0 : decode yB 0 = .ok (.iload_n 1, 1) := by decide +kernel
theorem d1 : decode yB 1 = .ok (.aload_n 0, 1) := by decide +kernel
theorem d2 : decode yB 2 = .ok (.arraylength, 1) := by decide +kernel
theorem d3 : decode yB 3 = .ok (.isub, 1) := by decide +kernel
theorem d4 : decode yB 4 = .ok (.bipush 31, 2) := by decide +kernel
theorem d6 : decode yB 6 = .ok (.iushr, 1) := by decide +kernel
theorem d7 : decode yB 7 = .ok (.i2b, 1) := by decide +kernel
theorem d8 : decode yB 8 = .ok (.ireturn, 1) := by decide +kernel
def site : List Cond := []
def tab : Cond := tabOf yN yB 2 (some .byte) site
def P (d : Addr) (B : Cell) (args : Array Value) (s : State) : Prop := args = #[.ref d, .int (Int32.ofNat B.slots.size)] ∧ Arr .byte d B s
def E (r : Option Value) (s u : State) : Prop := XT.PureE (some (.int 0)) r s u
/-- an array as long as the number of chars: LATIN1 -/
theorem law (l : Launch) (d : Addr) (B : Cell) : Law l yN 2 2 0 0 yB 2 (some .byte) site (P d B) E [] 0 0 := by
  refine Law.of_walk (plainFor_of_name (by decide +kernel)) (by decide +kernel) (by decide +kernel) (by decide) (fun _ _ h => by rw [h.1]; rfl) (fun _ U U' hal hh h => ⟨h.1, h.2.mv hal hh⟩) (fun r U U' V V' h1 hal h2 h => XT.PureE.mv r U U' V V' h1 hal h2 h) ?_
  intro p e s m args below meth c s₁ X0 hexec hbytes hml hret hlk hnm hown hh0 W hP
  obtain ⟨rfl, hB⟩ := hP
  have hB0 := hB.mv X0.warmed.alike hh0
  have c1 : Steps p.tables e below (s₁.setTop (entryFrame m #[.ref d, .int (Int32.ofNat B.slots.size)] 2)) (s₁.setTop (mkF m 0 #[.val (.ref d), .val (.int (Int32.ofNat B.slots.size))] [])) := entry rfl
  have c2 : Steps p.tables e below (s₁.setTop (entryFrame m #[.ref d, .int (Int32.ofNat B.slots.size)] 2)) (s₁.setTop (mkF m 2 #[.val (.ref d), .val (.int (Int32.ofNat B.slots.size))] [.ref d, .int (Int32.ofNat B.slots.size)])) := c1.trans (by
    refine XS.iloadN X0.here hexec rfl (hb hbytes d0) rfl ?_
    refine XS.aloadN X0.here hexec rfl (hb hbytes d1) rfl rfl ?_
    exact Steps.refl _)
  have c3 : Steps p.tables e below (s₁.setTop (entryFrame m #[.ref d, .int (Int32.ofNat B.slots.size)] 2)) (s₁.setTop (mkF m 8 #[.val (.ref d), .val (.int (Int32.ofNat B.slots.size))] [.int (lo8 (ushr (Int32.ofNat B.slots.size - Int32.ofNat B.slots.size) 31))])) := c2.trans (by
    refine X0.alen hexec hB0 rfl rfl (hb hbytes d2) ?_
    refine XS.isub X0.here hexec rfl (hb hbytes d3) rfl ?_
    refine bipushV X0.here hexec rfl 31 (hb hbytes d4) (by decide) ?_
    refine iushr X0.here hexec rfl (hb hbytes d6) rfl ?_
    refine i2b X0.here hexec rfl (hb hbytes d7) rfl ?_
    exact Steps.refl _)
  have e0 : lo8 (ushr (Int32.ofNat B.slots.size - Int32.ofNat B.slots.size) 31) = 0 := by rw [Int32.sub_self]; decide
  rw [e0] at c3
  exact ⟨s₁, some (.int 0), _, _, _, X0, rfl, rfl, rfl, (fun h => by cases h), ⟨rfl, hh0⟩, fun fs hl => c3.trans (X0.ireturnOut hexec hret rfl (Or.inr (Or.inr (Or.inl rfl))) (hb hbytes d8) hl)⟩
end CodL
/-- the String at a is Latin-1 over a new byte[] (the heap's one new cell): the low bytes of the len chars of A from o on; every cell but a is kept -/
def Got (a : Addr) (D : Cell) (fV fC : Field) (A : Cell) (o len : Nat) (r : Option Value) (s u : State) : Prop := r = none ∧ ∃ D' V : Cell, Blank "java/lang/String" a D' u ∧ Same D D' [fV.slot, fC.slot] ∧ D'.slots[fV.slot]? = some (.ref s.heap.size) ∧ D'.slots[fC.slot]? = some (.int 0) ∧ Arr .byte s.heap.size V u ∧ V.vm = .none ∧ u.vm.findClass "[B" = some V.cls ∧ V.slots.size = len ∧ (∀ j, j < len → V.slots[j]? = some (.int (lo8 (cv A (o + j))))) ∧ (∀ (y : Addr) (c : Cell), y ≠ a → s.heap[y]? = some c → u.heap[y]? = some c) ∧ u.heap.size = s.heap.size + 1
theorem Got.mv {a : Addr} {D A : Cell} {fV fC : Field} {o len : Nat} : ∀ r (U U' V V' : State), U'.heap = U.heap → V.vm.Alike V'.vm → V'.heap = V.heap → Got a D fV fC A o len r U V → Got a D fV fC A o len r U' V' :=
  fun r U U' V V' h1 hal h2 ⟨e0, D', X, a1, a2, a3, a4, a5, a6, a7, a8, a9, a10, a11⟩ => ⟨e0, D', X, a1.mv hal h2, a2, by rw [h1]; exact a3, a4, by rw [h1]; exact a5.mv hal h2, a6, by rw [hal.findClass]; exact a7, a8, a9, by rw [h1, h2]; exact a10, by rw [h1, h2]; exact a11⟩
namespace New4
def yN : MethodName := ⟨"java/lang/String", "<init>", "([CIILjava/lang/Void;)V"⟩
abbrev yB : ByteArray := jdk_42_method_149_code
theorem d0 : decode yB 0 = .ok (.aload_n 0, 1) := by decide +kernel
theorem d1 : decode yB 1 = .ok (.invokespecial 1, 3) := by decide +kernel
theorem d4 : decode yB 4 = .ok (.iload_n 3, 1) := by decide +kernel
theorem d5 : decode yB 5 = .ok (.ifCond (.ne) 22, 3) := by decide +kernel
theorem d27 : decode yB 27 = .ok (.getstatic 38, 3) := by decide +kernel
theorem d30 : decode yB 30 = .ok (.ifCond (.eq) 28, 3) := by decide +kernel
theorem d33 : decode yB 33 = .ok (.aload_n 1, 1) := by decide +kernel
theorem d34 : decode yB 34 = .ok (.iload_n 2, 1) := by decide +kernel
theorem d35 : decode yB 35 = .ok (.iload_n 3, 1) := by decide +kernel
theorem d36 : decode yB 36 = .ok (.invokestatic 177, 3) := by decide +kernel
theorem d39 : decode yB 39 = .ok (.astore 5, 2) := by decide +kernel
theorem d41 : decode yB 41 = .ok (.aload_n 0, 1) := by decide +kernel
theorem d42 : decode yB 42 = .ok (.aload 5, 2) := by decide +kernel
theorem d44 : decode yB 44 = .ok (.iload_n 3, 1) := by decide +kernel
theorem d45 : decode yB 45 = .ok (.invokestatic 47, 3) := by decide +kernel
theorem d48 : decode yB 48 = .ok (.putfield 15, 3) := by decide +kernel
theorem d51 : decode yB 51 = .ok (.aload_n 0, 1) := by decide +kernel
theorem d52 : decode yB 52 = .ok (.aload 5, 2) := by decide +kernel
theorem d54 : decode yB 54 = .ok (.putfield 9, 3) := by decide +kernel
theorem d57 : decode yB 57 = .ok (.return_, 1) := by decide +kernel
def site : List Cond := [.fieldLink "java/lang/String" 38 "java/lang/String" "COMPACT_STRINGS" "Z", Cmp3.tab, CodL.tab, .laysFinal "java/lang/String" "java/lang/String" "value" "[B", .fieldLink "java/lang/String" 9 "java/lang/String" "value" "[B", .laysFinal "java/lang/String" "java/lang/String" "coder" "B", .fieldLink "java/lang/String" 15 "java/lang/String" "coder" "B"] ++ objW "java/lang/String" 1 ++ staticW "java/lang/String" 177 Cmp3.yN ++ staticW "java/lang/String" 47 CodL.yN
def tab : Cond := tabOf yN yB 6 none site
def P (a : Addr) (D : Cell) (fV fC : Field) (b : Addr) (A : Cell) (z : Int32) (o len : Nat) (args : Array Value) (s : State) : Prop := args = #[.ref a, .ref b, .int (Int32.ofNat o), .int (Int32.ofNat len), .null] ∧ Blank "java/lang/String" a D s ∧ Found "java/lang/String" "value" "[B" fV s ∧ Found "java/lang/String" "coder" "B" fC s ∧ Ch b A s ∧ StaticIs s "java/lang/String" "COMPACT_STRINGS" "Z" (.int z) ∧ ¬ z = 0 ∧ 0 < len ∧ o + len ≤ A.slots.size ∧ len ≤ 536870912 ∧ ∀ i, i < len → ¬ 255 < cv A (o + i)
def E (a : Addr) (D : Cell) (fV fC : Field) (A : Cell) (o len : Nat) (r : Option Value) (s u : State) : Prop := Got a D fV fC A o len r s u
/-- len > 0, no char of the range above 255: a Latin-1 String of their low bytes -/
theorem law (l : Launch) (a : Addr) (D : Cell) (fV fC : Field) (b : Addr) (A : Cell) (z : Int32) (o len : Nat) : Law l yN 5 4 2 35 yB 6 none site (P a D fV fC b A z o len) (E a D fV fC A o len) [⟨a, fC.slot⟩, ⟨a, fV.slot⟩] 1 len := by
  refine Law.of_walk (plainFor_of_name (by decide +kernel)) (by decide +kernel) (by decide +kernel) (by decide) (fun _ _ h => by rw [h.1]; rfl) (fun _ U U' hal hh h => ⟨h.1, h.2.1.mv hal hh, h.2.2.1.al hal, h.2.2.2.1.al hal, h.2.2.2.2.1.mv hal hh, h.2.2.2.2.2.1.there hal hh, h.2.2.2.2.2.2⟩) (fun r U U' V V' h1 hal h2 h => Got.mv r U U' V V' h1 hal h2 h) ?_
  intro p e s m args below meth c s₁ X0 hexec hbytes hml hret hlk hnm hown hh0 W hP
  obtain ⟨rfl, hB, f1, f2, hA, s1, hz, l0, l1, l2, hp⟩ := hP
  have a31 := hA.1.2.2.2
  have c1 : Steps p.tables e below (s₁.setTop (entryFrame m #[.ref a, .ref b, .int (Int32.ofNat o), .int (Int32.ofNat len), .null] 6)) (s₁.setTop (mkF m 0 #[.val (.ref a), .val (.ref b), .val (.int (Int32.ofNat o)), .val (.int (Int32.ofNat len)), .val .null, .unset] [])) := entry rfl
  have c2 : Steps p.tables e below (s₁.setTop (entryFrame m #[.ref a, .ref b, .int (Int32.ofNat o), .int (Int32.ofNat len), .null] 6)) (s₁.setTop (mkF m 1 #[.val (.ref a), .val (.ref b), .val (.int (Int32.ofNat o)), .val (.int (Int32.ofNat len)), .val .null, .unset] [.ref a])) := c1.trans (by
    refine XS.aloadN X0.here hexec rfl (hb hbytes d0) rfl rfl ?_
    exact Steps.refl _)
  obtain ⟨T3, X3, q3, st3⟩ := X0.oinit hexec hown (wks W (objW "java/lang/String" 1)) (g := (mkF m 1 #[.val (.ref a), .val (.ref b), .val (.int (Int32.ofNat o)), .val (.int (Int32.ofNat len)), .val .null, .unset] [.ref a])) rfl (by rw [hml]; rfl) (rest := []) rfl (hb hbytes d1) (W := 0) (by show 2 * 0 + 0 ≤ _; decide) (Nat.le_of_ble_eq_true rfl) (Nat.le_of_ble_eq_true rfl)
  have hh3 := q3.trans hh0
  have c4 : Steps p.tables e below (s₁.setTop (entryFrame m #[.ref a, .ref b, .int (Int32.ofNat o), .int (Int32.ofNat len), .null] 6)) (T3.setTop (mkF m 27 #[.val (.ref a), .val (.ref b), .val (.int (Int32.ofNat o)), .val (.int (Int32.ofNat len)), .val .null, .unset] [])) := (c2.trans (st3 _ (Steps.refl _))).trans (by
    refine XS.iloadN X3.here hexec rfl (hb hbytes d4) rfl ?_
    refine XS.ifYes X3.here hexec rfl (pc0 := 5) rfl (hb hbytes d5) rfl (i0_ne_t (nz32 (by omega) l0)) (by decide) rfl ?_
    exact Steps.refl _)
  obtain ⟨T5, X5, q5, st5⟩ := X3.sget hexec hown (wk W (.fieldLink "java/lang/String" 38 "java/lang/String" "COMPACT_STRINGS" "Z")) s1 (fun _ _ h => by rw [hh3]; exact h) (g := (mkF m 27 #[.val (.ref a), .val (.ref b), .val (.int (Int32.ofNat o)), .val (.int (Int32.ofNat len)), .val .null, .unset] [])) rfl (hb hbytes d27)
  have hh5 := q5.trans hh3
  have c6 : Steps p.tables e below (s₁.setTop (entryFrame m #[.ref a, .ref b, .int (Int32.ofNat o), .int (Int32.ofNat len), .null] 6)) (T5.setTop (mkF m 30 #[.val (.ref a), .val (.ref b), .val (.int (Int32.ofNat o)), .val (.int (Int32.ofNat len)), .val .null, .unset] [.int z])) := c4.trans (st5 _ (Steps.refl _))
  have c7 : Steps p.tables e below (s₁.setTop (entryFrame m #[.ref a, .ref b, .int (Int32.ofNat o), .int (Int32.ofNat len), .null] 6)) (T5.setTop (mkF m 36 #[.val (.ref a), .val (.ref b), .val (.int (Int32.ofNat o)), .val (.int (Int32.ofNat len)), .val .null, .unset] [.int (Int32.ofNat len), .int (Int32.ofNat o), .ref b])) := c6.trans (by
    refine XS.ifNo X5.here hexec rfl (hb hbytes d30) rfl (i0_eq_f hz) ?_
    refine XS.aloadN X5.here hexec rfl (hb hbytes d33) rfl rfl ?_
    refine XS.iloadN X5.here hexec rfl (hb hbytes d34) rfl ?_
    refine XS.iloadN X5.here hexec rfl (hb hbytes d35) rfl ?_
    exact Steps.refl _)
  obtain ⟨v8, T8, X8, E8, g8⟩ := X5.callS hexec (Cmp3.law l b A o len) hown (wks W (staticW "java/lang/String" 177 Cmp3.yN)) (wk W Cmp3.tab) (W := 0) (Nat.le_of_ble_eq_true rfl) (Nat.le_of_ble_eq_true rfl) (Nat.le_refl _) (by show 0 + len ≤ len; omega) (g := (mkF m 36 #[.val (.ref a), .val (.ref b), .val (.int (Int32.ofNat o)), .val (.int (Int32.ofNat len)), .val .null, .unset] [.int (Int32.ofNat len), .int (Int32.ofNat o), .ref b])) rfl (by rw [hml]; rfl) c7 (argsL := [.ref b, .int (Int32.ofNat o), .int (Int32.ofNat len)]) (rest := []) rfl rfl (by show 2 * 0 + 0 ≤ _; decide) (hb hbytes d36) (⟨rfl, hA.mv X5.warmed.alike hh5, l1, l2, hp⟩)
  obtain ⟨e8, z8⟩ := E8
  obtain ⟨rfl, N, n1, n2, n3, n4, n5, n6⟩ := NewArr.mv _ T5 s _ _ hh5.symm (Vm.Alike.refl _) rfl e8
  rw [hh5] at z8
  have hB1 := hB.keep X8.warmed.alike (n6 _ _ hB.1)
  have hne : s.heap.size ≠ a := (Nat.ne_of_lt (Array.getElem?_eq_some_iff.mp hB.1).1).symm
  have c9 : Steps p.tables e below (s₁.setTop (entryFrame m #[.ref a, .ref b, .int (Int32.ofNat o), .int (Int32.ofNat len), .null] 6)) (T8.setTop (mkF m 39 #[.val (.ref a), .val (.ref b), .val (.int (Int32.ofNat o)), .val (.int (Int32.ofNat len)), .val .null, .unset] [.ref s.heap.size])) := g8
  have c10 : Steps p.tables e below (s₁.setTop (entryFrame m #[.ref a, .ref b, .int (Int32.ofNat o), .int (Int32.ofNat len), .null] 6)) (T8.setTop (mkF m 45 #[.val (.ref a), .val (.ref b), .val (.int (Int32.ofNat o)), .val (.int (Int32.ofNat len)), .val .null, .val (.ref s.heap.size)] [.int (Int32.ofNat N.slots.size), .ref s.heap.size, .ref a])) := by
    have hc : Steps p.tables e below (s₁.setTop (entryFrame m #[.ref a, .ref b, .int (Int32.ofNat o), .int (Int32.ofNat len), .null] 6)) (T8.setTop (mkF m 45 #[.val (.ref a), .val (.ref b), .val (.int (Int32.ofNat o)), .val (.int (Int32.ofNat len)), .val .null, .val (.ref s.heap.size)] [.int (Int32.ofNat len), .ref s.heap.size, .ref a])) := c9.trans (by
      refine XS.astore X8.here hexec rfl (hb hbytes d39) rfl rfl rfl ?_
      refine XS.aloadN X8.here hexec rfl (hb hbytes d41) rfl rfl ?_
      refine XS.aload X8.here hexec rfl (hb hbytes d42) rfl rfl ?_
      refine XS.iloadN X8.here hexec rfl (hb hbytes d44) rfl ?_
      exact Steps.refl _)
    rw [n4]; exact hc
  obtain ⟨v11, T11, X11, E11, g11⟩ := X8.callS hexec (CodL.law l s.heap.size N) hown (wks W (staticW "java/lang/String" 47 CodL.yN)) (wk W CodL.tab) (W := 1) (Nat.le_of_ble_eq_true rfl) (Nat.le_of_ble_eq_true rfl) (Nat.le_refl _) (by show 0 + len + 0 ≤ len; omega) (g := (mkF m 45 #[.val (.ref a), .val (.ref b), .val (.int (Int32.ofNat o)), .val (.int (Int32.ofNat len)), .val .null, .val (.ref s.heap.size)] [.int (Int32.ofNat N.slots.size), .ref s.heap.size, .ref a])) rfl (by rw [hml]; rfl) c10 (argsL := [.ref s.heap.size, .int (Int32.ofNat N.slots.size)]) (rest := [.ref a]) rfl rfl (by show 2 * 0 + (1 + 0) ≤ _; decide) (hb hbytes d45) (⟨rfl, n1⟩)
  obtain ⟨rfl, q11⟩ := E11
  have hB11 := hB1.mv (X8.warmed.alike.symm.trans X11.warmed.alike) q11
  have c12 : Steps p.tables e below (s₁.setTop (entryFrame m #[.ref a, .ref b, .int (Int32.ofNat o), .int (Int32.ofNat len), .null] 6)) (T11.setTop (mkF m 48 #[.val (.ref a), .val (.ref b), .val (.int (Int32.ofNat o)), .val (.int (Int32.ofNat len)), .val .null, .val (.ref s.heap.size)] [.int 0, .ref a])) := g11
  obtain ⟨T13, X13, p13, bl13, sl13, st13⟩ := X11.finit hexec hown (wk W (.fieldLink "java/lang/String" 15 "java/lang/String" "coder" "B")) (Or.inr ⟨_, (wk W (.laysFinal "java/lang/String" "java/lang/String" "coder" "B"))⟩) (Or.inl ⟨rfl, hnm⟩) f2 (Or.inl rfl) hB11 (t := .byte) (by decide +kernel) rfl (g := (mkF m 48 #[.val (.ref a), .val (.ref b), .val (.int (Int32.ofNat o)), .val (.int (Int32.ofNat len)), .val .null, .val (.ref s.heap.size)] [.int 0, .ref a])) rfl (rest := []) rfl (hb hbytes d48)
  have c14 : Steps p.tables e below (s₁.setTop (entryFrame m #[.ref a, .ref b, .int (Int32.ofNat o), .int (Int32.ofNat len), .null] 6)) (T13.setTop (mkF m 54 #[.val (.ref a), .val (.ref b), .val (.int (Int32.ofNat o)), .val (.int (Int32.ofNat len)), .val .null, .val (.ref s.heap.size)] [.ref s.heap.size, .ref a])) := (c12.trans (st13 _ (Steps.refl _))).trans (by
    refine XS.aloadN X13.here hexec rfl (hb hbytes d51) rfl rfl ?_
    refine XS.aload X13.here hexec rfl (hb hbytes d52) rfl rfl ?_
    exact Steps.refl _)
  obtain ⟨T15, X15, p15, bl15, sl15, st15⟩ := X13.finit hexec hown (wk W (.fieldLink "java/lang/String" 9 "java/lang/String" "value" "[B")) (Or.inr ⟨_, (wk W (.laysFinal "java/lang/String" "java/lang/String" "value" "[B"))⟩) (Or.inl ⟨rfl, hnm⟩) f1 (Or.inl rfl) bl13 (t := (.array .byte)) (by decide +kernel) rfl (g := (mkF m 54 #[.val (.ref a), .val (.ref b), .val (.int (Int32.ofNat o)), .val (.int (Int32.ofNat len)), .val .null, .val (.ref s.heap.size)] [.ref s.heap.size, .ref a])) rfl (rest := []) rfl (hb hbytes d54)
  have c16 : Steps p.tables e below (s₁.setTop (entryFrame m #[.ref a, .ref b, .int (Int32.ofNat o), .int (Int32.ofNat len), .null] 6)) (T15.setTop (mkF m 57 #[.val (.ref a), .val (.ref b), .val (.int (Int32.ofNat o)), .val (.int (Int32.ofNat len)), .val .null, .val (.ref s.heap.size)] [])) := c14.trans (st15 _ (Steps.refl _))
  have ap := apart (Or.inr ⟨_, (wk W (.laysFinal "java/lang/String" "java/lang/String" "value" "[B"))⟩) (Or.inr ⟨_, (wk W (.laysFinal "java/lang/String" "java/lang/String" "coder" "B"))⟩) f1 f2 (t₁ := .array .byte) (t₂ := .byte) (by decide +kernel) (by decide +kernel) (by decide)
  have al := X8.warmed.alike.symm.trans X15.warmed.alike
  have n7 : T11.heap[s.heap.size]? = some N := by rw [q11]; exact n1.1
  exact ⟨T15, none, _, _, _, X15, by simp, rfl, by omega, (fun _ => rfl), ⟨rfl, _, N, bl15, ((Same.refl D _).set _ (by simp)).set _ (by simp), sl15, (Cell.slots_setSlot_ne _ ap).trans sl13, n1.keep al (p15.other hne (p13.other hne n7)), n2, by rw [al.findClass]; exact n3, n4, n5, fun y c h1 h2 => p15.other h1 (p13.other h1 (by rw [q11]; exact n6 y c h2)), by rw [p15.2.2, p13.2.2, q11]; exact z8⟩, fun fs hl => c16.trans (X15.returnOut hexec hret (hb hbytes d57) hl)⟩
end New4
namespace New1
def yN : MethodName := ⟨"java/lang/String", "<init>", "([C)V"⟩
abbrev yB : ByteArray := jdk_42_method_3_code
theorem d0 : decode yB 0 = .ok (.aload_n 0, 1) := by decide +kernel
theorem d1 : decode yB 1 = .ok (.aload_n 1, 1) := by decide +kernel
theorem d2 : decode yB 2 = .ok (.iconst 0, 1) := by decide +kernel
theorem d3 : decode yB 3 = .ok (.aload_n 1, 1) := by decide +kernel
theorem d4 : decode yB 4 = .ok (.arraylength, 1) := by decide +kernel
theorem d5 : decode yB 5 = .ok (.aconst_null, 1) := by decide +kernel
theorem d6 : decode yB 6 = .ok (.invokespecial 27, 3) := by decide +kernel
theorem d9 : decode yB 9 = .ok (.return_, 1) := by decide +kernel
def site : List Cond := [New4.tab] ++ initW "java/lang/String" 27 New4.yN
def tab : Cond := tabOf yN yB 2 none site
def P (a : Addr) (D : Cell) (fV fC : Field) (b : Addr) (A : Cell) (z : Int32) (args : Array Value) (s : State) : Prop := args = #[.ref a, .ref b] ∧ Blank "java/lang/String" a D s ∧ Found "java/lang/String" "value" "[B" fV s ∧ Found "java/lang/String" "coder" "B" fC s ∧ Ch b A s ∧ StaticIs s "java/lang/String" "COMPACT_STRINGS" "Z" (.int z) ∧ ¬ z = 0 ∧ 0 < A.slots.size ∧ A.slots.size ≤ 536870912 ∧ ∀ i, i < A.slots.size → ¬ 255 < cv A i
def E (a : Addr) (D : Cell) (fV fC : Field) (A : Cell) (r : Option Value) (s u : State) : Prop := Got a D fV fC A 0 A.slots.size r s u
/-- new String(chars), not empty, no char above 255: a Latin-1 String of their low bytes -/
theorem law (l : Launch) (a : Addr) (D : Cell) (fV fC : Field) (b : Addr) (A : Cell) (z : Int32) : Law l yN 2 1 3 52 yB 2 none site (P a D fV fC b A z) (E a D fV fC A) [⟨a, fC.slot⟩, ⟨a, fV.slot⟩] 1 A.slots.size := by
  refine Law.of_walk (plainFor_of_name (by decide +kernel)) (by decide +kernel) (by decide +kernel) (by decide) (fun _ _ h => by rw [h.1]; rfl) (fun _ U U' hal hh h => ⟨h.1, h.2.1.mv hal hh, h.2.2.1.al hal, h.2.2.2.1.al hal, h.2.2.2.2.1.mv hal hh, h.2.2.2.2.2.1.there hal hh, h.2.2.2.2.2.2⟩) (fun r U U' V V' h1 hal h2 h => Got.mv r U U' V V' h1 hal h2 h) ?_
  intro p e s m args below meth c s₁ X0 hexec hbytes hml hret hlk hnm hown hh0 W hP
  obtain ⟨rfl, hB, f1, f2, hA, s1, hz, l0, l2, hp⟩ := hP
  have c1 : Steps p.tables e below (s₁.setTop (entryFrame m #[.ref a, .ref b] 2)) (s₁.setTop (mkF m 0 #[.val (.ref a), .val (.ref b)] [])) := entry rfl
  have c2 : Steps p.tables e below (s₁.setTop (entryFrame m #[.ref a, .ref b] 2)) (s₁.setTop (mkF m 6 #[.val (.ref a), .val (.ref b)] [.null, .int (Int32.ofNat A.slots.size), .int 0, .ref b, .ref a])) := c1.trans (by
    refine XS.aloadN X0.here hexec rfl (hb hbytes d0) rfl rfl ?_
    refine XS.aloadN X0.here hexec rfl (hb hbytes d1) rfl rfl ?_
    refine iconstV X0.here hexec rfl 0 (hb hbytes d2) (by decide) ?_
    refine XS.aloadN X0.here hexec rfl (hb hbytes d3) rfl rfl ?_
    refine X0.alen hexec (hA.1.mv X0.warmed.alike hh0) rfl rfl (hb hbytes d4) ?_
    refine XS.aconstNull X0.here hexec rfl (hb hbytes d5) ?_
    exact Steps.refl _)
  obtain ⟨v3, T3, X3, E3, g3⟩ := X0.callN hexec (New4.law l a D fV fC b A z 0 A.slots.size) rfl hown (wks W (initW "java/lang/String" 27 New4.yN)) (W New4.tab (by simp only [site, List.mem_cons, List.mem_append, true_or, or_true])) (W := 0) (Nat.le_of_ble_eq_true rfl) (Nat.le_of_ble_eq_true rfl) (Nat.le_refl _) (by show 0 + A.slots.size ≤ A.slots.size; omega) (g := (mkF m 6 #[.val (.ref a), .val (.ref b)] [.null, .int (Int32.ofNat A.slots.size), .int (Int32.ofNat 0), .ref b, .ref a])) rfl (by rw [hml]; rfl) c2 (argsL := [.ref b, .int (Int32.ofNat 0), .int (Int32.ofNat A.slots.size), .null]) (rest := []) rfl rfl (by show 2 * 0 + 0 ≤ _; decide) (hb hbytes d6) (⟨rfl, hB.mv X0.warmed.alike hh0, f1.al X0.warmed.alike, f2.al X0.warmed.alike, hA.mv X0.warmed.alike hh0, s1.there X0.warmed.alike hh0, hz, l0, by omega, l2, fun i hi => by rw [Nat.zero_add]; exact hp i hi⟩)
  have e0 := Got.mv _ s₁ s _ _ hh0.symm (Vm.Alike.refl _) rfl E3
  obtain rfl := e0.1
  have c4 : Steps p.tables e below (s₁.setTop (entryFrame m #[.ref a, .ref b] 2)) (T3.setTop (mkF m 9 #[.val (.ref a), .val (.ref b)] [])) := g3
  exact ⟨T3, none, _, _, _, X3, by simp, rfl, by omega, (fun _ => rfl), e0, fun fs hl => c4.trans (X3.returnOut hexec hret (hb hbytes d9) hl)⟩
theorem pays {l : Launch} {R : Room} {p : Program} {e : Env} {below : List Frame} {s : State} {sargs : Array Value} {len W : Nat} (a : Addr) (D : Cell) (fV fC : Field) (b : Addr) (A : Cell) (z : Int32) (htab : tab.before sargs s = true) (hfr : 4 ≤ R.frames) (hlo : W + 65 ≤ R.locals) :
    Back l R p e below s sargs yN len W (fun A₁ a₁ => A₁.cells + 1 ≤ R.cells ∧ A₁.slots + A.slots.size ≤ R.slots ∧ P a D fV fC b A z a₁ A₁.U) (fun A₁ _ v₁ B₁ => E a D fV fC A v₁ A₁.U B₁.U ∧ B₁.locs = A₁.locs ++ [⟨a, fC.slot⟩, ⟨a, fV.slot⟩] ∧ B₁.cells = A₁.cells + 1 ∧ B₁.slots = A₁.slots + A.slots.size) :=
  (law l a D fV fC b A z).pays htab hfr (by omega)
end New1
/-- the byte, read back as charAt reads it, is the char -/
theorem lo8_mask {x : Int32} (h0 : ¬ x < 0) (h1 : ¬ 255 < x) : lo8 x &&& 255 = x := by
  have t : ∀ k : Fin 256, lo8 (Int32.ofNat k.val) &&& 255 = Int32.ofNat k.val := by decide +kernel
  rw [Int32.lt_iff_toInt_lt] at h0 h1
  have e0 : (0 : Int32).toInt = 0 := rfl
  have e1 : (255 : Int32).toInt = 255 := rfl
  obtain ⟨k, hk⟩ : ∃ k : Nat, x.toInt = k := ⟨x.toInt.toNat, by omega⟩
  have hx : x = Int32.ofNat k := Int32.toInt_inj.mp (by rw [hk, Int32.toInt_ofNat_small (by omega)])
  rw [hx]
  exact t ⟨k, by omega⟩
end StrChars
namespace StrChars.Road
open Jvm Sem ClassFile Op Lib Jvm.Stand Jvm.Free Jvm.Free.XT
open Jvm.Lib.Cold (StaticIs)
abbrev ST : String := "java/lang/String"
/-- every table word that New1's law asks, flat -/
abbrev words : List Jvm.Cond := [.code New1.yN New1.yB 2 none, .initialized ST, .methodLink ST 27 New4.yN, .instanceMethod New4.yN,
  .code New4.yN New4.yB 6 none, .fieldLink ST 38 ST "COMPACT_STRINGS" "Z", .laysFinal ST ST "value" "[B", .fieldLink ST 9 ST "value" "[B", .laysFinal ST ST "coder" "B", .fieldLink ST 15 ST "coder" "B",
  .methodLink ST 1 Lib.objectInit, .instanceMethod Lib.objectInit, .code Lib.objectInit ⟨#[0xb1]⟩ 1 none, .methodLink ST 177 Cmp3.yN, .static Cmp3.yN, .methodLink ST 47 CodL.yN, .static CodL.yN,
  .code Cmp3.yN Cmp3.yB 6 (some (.array .byte)), .initialized U16, .arrayClass .byte, .methodLink U16 115 Cmp5.yN, .static Cmp5.yN, .code Cmp5.yN Cmp5.yB 7 (some .int), .code CodL.yN CodL.yB 2 (some .byte)]
theorem tab_of {a : Array Value} {s : State} (h : ∀ w ∈ words, w.before a s = true) : New1.tab.before a s = true := by
  have h5 : Cmp5.tab.before a s = true := unparts (wk h (.code Cmp5.yN Cmp5.yB 7 (some .int))) (wks h (.initialized Cmp5.yN.cls :: Cmp5.site))
  have hc : CodL.tab.before a s = true := unparts (wk h (.code CodL.yN CodL.yB 2 (some .byte))) (wks h (.initialized CodL.yN.cls :: CodL.site))
  have q5 : ∀ w ∈ Cmp5.tab :: words, w.before a s = true := fun w hw => (List.mem_cons.mp hw).elim (fun e => e ▸ h5) (h w)
  have h3 : Cmp3.tab.before a s = true := unparts (wk q5 (.code Cmp3.yN Cmp3.yB 6 (some (.array .byte)))) (wks q5 (.initialized Cmp3.yN.cls :: Cmp3.site))
  have q3 : ∀ w ∈ Cmp3.tab :: CodL.tab :: words, w.before a s = true := fun w hw => (List.mem_cons.mp hw).elim (fun e => e ▸ h3) fun hw => (List.mem_cons.mp hw).elim (fun e => e ▸ hc) (h w)
  have h4 : New4.tab.before a s = true := unparts (wk q3 (.code New4.yN New4.yB 6 none)) (wks q3 (.initialized New4.yN.cls :: New4.site))
  have q4 : ∀ w ∈ New4.tab :: words, w.before a s = true := fun w hw => (List.mem_cons.mp hw).elim (fun e => e ▸ h4) (h w)
  exact unparts (wk q4 (.code New1.yN New1.yB 2 none)) (wks q4 (.initialized New1.yN.cls :: New1.site))
/-- the words ride from the start Z to the walk's own state -/
theorem moved {Z s : State} {a0 args : Array Value} (hZ : Z.Warmed39 s.vm) (hw : ∀ d ∈ words, d.before a0 Z = true) : ∀ d ∈ words, d.before args s = true := fun d hd => by
  have q := hw d hd
  have t : ∀ d ∈ words, d = .arrayClass .byte ∨ (d.onTables && d.keepsFace) = true := by decide +kernel
  rcases t d hd with rfl | t
  · exact RoadKit.mvA hZ q
  · exact RoadKit.mv hZ q t
/-- WHAT COMES BACK, over the tables of the start Z: h the heap at the call, h' behind it -/
def Q (Z : State) (x : Addr) (A : Cell) (h : Heap) (v : Option Value) (h' : Heap) (L : List Loc) : Prop := v = none ∧ (∀ y ∈ L, y.base = x) ∧ RoadKit.Keep h h' [x] ∧ h'.size = h.size + 1 ∧ RoadKit.Exa Z h' x ST ∧ RoadKit.Fld Z h' x ST "value" "[B" (.ref h.size) ∧ RoadKit.Fld Z h' x ST "coder" "B" (.int 0) ∧
  (∃ V : Cell, RoadKit.Arr Z h' h.size V .byte ∧ V.vm = .none ∧ Z.vm.findClass "[B" = some V.cls ∧ V.slots.size = A.slots.size ∧ ∀ j, j < A.slots.size → V.slots[j]? = some (.int (lo8 (cv A j)))) ∧
  ∀ (O n d : String) (w : Value), RoadKit.Fld Z h x O n d w → RoadKit.slotOf Z O n d ≠ RoadKit.slotOf Z ST "value" "[B" → RoadKit.slotOf Z O n d ≠ RoadKit.slotOf Z ST "coder" "B" → RoadKit.Fld Z h' x O n d w
/-- **new String(chars) AT A CALL, IN THE ROAD'S FORM**: for specialBack behind newO: x the fresh String, b the char[] with the cell A -/
theorem back {p : Program} {l : Launch} {e : Env} {R : Room} {s : State} {args : Array Value} {below : List Frame} {len W : Nat} {Z : State} {a0 : Array Value} {h : Heap} (hZ : Z.Warmed39 s.vm) (hw : ∀ d ∈ words, d.before a0 Z = true) {kI : Nat} (wi : (Jvm.Cond.instantiable ST kI).before a0 Z = true)
    {x b : Addr} {A : Cell} {z : Int32} {v0 c0 : Value} (E : RoadKit.Exa Z h x ST) (V : RoadKit.Fld Z h x ST "value" "[B" v0) (C : RoadKit.Fld Z h x ST "coder" "B" c0) (K : RoadKit.Arr Z h b A .char) (hty : Typed .char A) (S : RoadKit.Sta Z h ST "COMPACT_STRINGS" "Z" (.int z)) (hz : ¬ z = 0)
    (l0 : 0 < A.slots.size) (l2 : A.slots.size ≤ 536870912) (hp : ∀ i, i < A.slots.size → ¬ 255 < cv A i) (hfr : 4 ≤ R.frames) (hlo : W + 65 ≤ R.locals) :
    Back l R p e below s args New1.yN len W (fun P a => a = #[.ref x, .ref b] ∧ P.U.heap = h ∧ P.cells + 1 ≤ R.cells ∧ P.slots + A.slots.size ≤ R.slots)
      (fun P _ v B => ∃ L, Q Z x A h v B.U.heap L ∧ B.locs = P.locs ++ L ∧ B.cells = P.cells + 1 ∧ B.slots = P.slots + A.slots.size) := by
  intro m meth c P g ig mk a X hg hsize hdg hW hn hp'
  obtain ⟨rfl, rfl, r1, r2⟩ := hp'
  have al : Z.vm.Alike P.U.vm := hZ.alike.trans X.warmed.alike
  obtain ⟨D, cfV, kV, iV, fV, hD, gV, stV, knV, obV, asV, slV⟩ := id V
  obtain ⟨D', cfC, kC, iC, fC, hD', gC, stC, -, -, asC, slC⟩ := id C
  cases hD.symm.trans hD'
  obtain ⟨D2, kD, e1, e2, e3, e4, e5⟩ := id E
  cases hD.symm.trans e1
  obtain ⟨c2, k2, i1, i2, i3, -⟩ := Cond.instantiable_spec wi
  cases e2.symm.trans i1
  cases e3.symm.trans i2
  obtain ⟨kU, u1, u2⟩ := al.2.2 _ _ e3
  have hB : Blank ST x D P.U := ⟨hD, ⟨knV, fun q hq => by rw [hq] at obV; cases obV⟩, by rw [al.findClass]; exact e2, kU, u1, by rw [u2]; exact i3, by rw [u2]; exact e5 i3⟩
  have F1 : Found ST "value" "[B" fV P.U := ⟨SBG.found_only al ⟨cfV, kV, iV, gV⟩, stV⟩
  have F2 : Found ST "coder" "B" fC P.U := ⟨SBG.found_only al ⟨cfC, kC, iC, gC⟩, stC⟩
  have hA : Ch b A P.U := ⟨⟨K.1, State.isArrayOf_alike al K.2.1, K.2.2, by omega⟩, hty⟩
  have hS : StaticIs P.U ST "COMPACT_STRINGS" "Z" (.int z) := by
    obtain ⟨cfS, iS, kS, fS, st, cS, t1, t2, t3, t4, t5, t6, t7⟩ := S
    exact StaticIs.there (s := { Z with heap := P.U.heap }) ⟨cfS, iS, kS, fS, st, cS, t1, t2, t3, t4, t5, (fun q => by rw [q] at t6; cases t6), t7⟩ al rfl
  obtain ⟨v, B, X', ⟨⟨hv, E', V', q1, q2, q3, q4, q5, q6, q7, q8, q9, q10, q11⟩, hl, hc, hs⟩, st⟩ := New1.pays x D fV fC b A z (tab_of (moved hZ hw)) hfr hlo m meth c P g ig mk _ X hg hsize hdg hW hn ⟨r1, r2, rfl, hB, F1, F2, hA, hS, hz, l0, l2, hp⟩
  have al' : Z.vm.Alike B.U.vm := hZ.alike.trans X'.warmed.alike
  have hsz : E'.slots.size = D.slots.size := by
    obtain ⟨-, -, -, kB, w1, w2, w3⟩ := q1
    obtain ⟨kB', y1, y2⟩ := al'.2.2 _ _ e3
    rw [q2.2.1] at w1
    cases w1.symm.trans y1
    rw [w3, e5 i3, y2]
  refine ⟨v, B, X', ⟨_, ⟨hv, ?_, ⟨by omega, fun y cy hy hn' => q10 y cy (by simpa using hn') hy, fun y cy hy => ?_⟩, q11, ⟨E', _, q1.1, by rw [q2.2.1]; exact e2, by rw [q2.2.1]; exact e3, by rw [q2.1]; exact obV, fun _ => by rw [hsz]; exact e5 i3⟩,
    ⟨E', cfV, kV, iV, fV, q1.1, gV, stV, by rw [q2.1]; exact knV, by rw [q2.1]; exact obV, by rw [q2.2.1]; exact asV, q3⟩, ⟨E', cfC, kC, iC, fC, q1.1, gC, stC, by rw [q2.1]; exact knV, by rw [q2.1]; exact obV, by rw [q2.2.1]; exact asC, q4⟩,
    ⟨V', ⟨q5.1, State.isArrayOf_alike al'.symm q5.2.1, q5.2.2.1⟩, q6, by rw [← al'.findClass]; exact q7, q8, fun j hj => by have := q9 j hj; rwa [Nat.zero_add] at this⟩, fun O n d w F n1 n2 => ?_⟩, hl, hc, hs⟩, st⟩
  · intro y hy
    simp only [List.mem_cons, List.not_mem_nil, or_false] at hy
    rcases hy with rfl | rfl <;> rfl
  · by_cases q : y = x
    · subst q
      cases hD.symm.trans hy
      exact ⟨E', q1.1, q2.2.1, q2.1, hsz⟩
    · exact ⟨cy, q10 y cy q hy, rfl, rfl, rfl⟩
  · obtain ⟨D3, cf, k, i, f, g1, g2, g3, g4, g5, g6, g7⟩ := F
    cases hD.symm.trans g1
    simp only [RoadKit.slotOf, g2, gV, gC, Option.map_some, Option.getD_some] at n1 n2
    exact ⟨E', cf, k, i, f, q1.1, g2, g3, by rw [q2.1]; exact g4, by rw [q2.1]; exact g5, by rw [q2.2.1]; exact g6, by rw [q2.2.2 f.slot (by simp [n1, n2])]; exact g7⟩
end StrChars.Road
namespace StrChars.Road
open Jvm Sem ClassFile Op Lib Jvm.Stand Jvm.Free Jvm.Free.XT
/-- WHAT COMES BACK, the byte[] as a list of values -/
def QA (Z : State) (x : Addr) (zn : Int32) (cs : List Int32) (h : Heap) (v : Option Value) (h' : Heap) (L : List Loc) : Prop := v = none ∧ (∀ y ∈ L, y.base = x) ∧ RoadKit.Keep h h' [x] ∧ h'.size = h.size + 1 ∧ RoadKit.Exa Z h' x ST ∧ RoadKit.Fld Z h' x ST "value" "[B" (.ref h.size) ∧ RoadKit.Fld Z h' x ST "coder" "B" (.int 0) ∧
  (∃ kb, Z.vm.findClass "[B" = some kb ∧ RoadKit.Arv Z h' h.size kb .byte zn (cs.map fun c => .int (lo8 c)) (.int 0)) ∧
  ∀ (O n d : String) (w : Value), RoadKit.Fld Z h x O n d w → RoadKit.slotOf Z O n d ≠ RoadKit.slotOf Z ST "value" "[B" → RoadKit.slotOf Z O n d ≠ RoadKit.slotOf Z ST "coder" "B" → RoadKit.Fld Z h' x O n d w
/-- **new String(chars) AT A CALL, THE ARRAYS AS LISTS**: the char[] at b holds cs, not empty, no char above 255 -/
theorem backArv {p : Program} {l : Launch} {e : Env} {R : Room} {s : State} {args : Array Value} {below : List Frame} {len W : Nat} {Z : State} {a0 : Array Value} {h : Heap} (hZ : Z.Warmed39 s.vm) (hw : ∀ d ∈ words, d.before a0 Z = true) {kI : Nat} (wi : (Jvm.Cond.instantiable ST kI).before a0 Z = true)
    {x b : Addr} {k : ClassId} {zn z : Int32} {cs : List Int32} {dv v0 c0 : Value} (E : RoadKit.Exa Z h x ST) (V : RoadKit.Fld Z h x ST "value" "[B" v0) (C : RoadKit.Fld Z h x ST "coder" "B" c0) (K : RoadKit.Arv Z h b k .char zn (cs.map Value.int) dv) (S : RoadKit.Sta Z h ST "COMPACT_STRINGS" "Z" (.int z)) (hz : ¬ z = 0)
    (hlen : zn.toNatClampNeg = cs.length) (h0 : 0 < cs.length) (hbig : cs.length ≤ 536870912) (hall : ∀ c ∈ cs, ¬ 255 < c) (hfr : 4 ≤ R.frames) (hlo : W + 65 ≤ R.locals) :
    Back l R p e below s args New1.yN len W (fun P a => a = #[.ref x, .ref b] ∧ P.U.heap = h ∧ P.cells + 1 ≤ R.cells ∧ P.slots + cs.length ≤ R.slots)
      (fun P _ v B => ∃ L, QA Z x zn cs h v B.U.heap L ∧ B.locs = P.locs ++ L ∧ B.cells = P.cells + 1 ∧ B.slots = P.slots + cs.length) := by
  obtain ⟨A, K1, K2, K3, K4, K5, K6⟩ := K
  have e : A.slots.size = cs.length := K3.trans hlen
  have hat : ∀ (i : Nat) (hi : i < cs.length), A.slots[i]? = some (.int cs[i]) := fun i hi => by rw [K5 i (by omega)]; simp [List.getD_eq_getElem?_getD, hi]
  have hcv : ∀ (i : Nat) (hi : i < cs.length), cv A i = cs[i] := fun i hi => by unfold cv; rw [hat i hi]
  have hty : Typed .char A := fun i v hv => by
    have hi : i < A.slots.size := (Array.getElem?_eq_some_iff.mp hv).1
    have q := K5 i hi
    rw [hv] at q
    rw [Option.some.inj q]
    exact K6 i hi
  refine Back.mono (back hZ hw wi E V C K1 hty S hz (by omega) (by omega) (fun i hi => by rw [hcv i (by omega)]; exact hall _ (List.getElem_mem _)) hfr hlo) (fun P a hp => ⟨hp.1, hp.2.1, hp.2.2.1, by rw [e]; exact hp.2.2.2⟩) (fun P a v B hp hq => ?_)
  obtain ⟨L, ⟨q1, q2, q3, q4, q5, q6, q7, ⟨V', v1, v2, v3, v4, v5⟩, q9⟩, hl, hc, hs⟩ := hq
  refine ⟨L, ⟨q1, q2, q3, q4, q5, q6, q7, ⟨V'.cls, v3, V', v1, rfl, by rw [v4, e, hlen], K4, fun i hi => ?_, fun i hi => ?_⟩, q9⟩, hl, hc, by rw [hs, e]⟩
  · have hi' : i < cs.length := by omega
    rw [v5 i (by omega), hcv i hi']; simp [List.getD_eq_getElem?_getD, hi']
  · have hi' : i < cs.length := by omega
    simp only [List.getD_eq_getElem?_getD, List.getElem?_map, List.getElem?_eq_getElem hi', Option.map_some, Option.getD_some]
    exact fits_lo8 _
end StrChars.Road
namespace StrChars.Road
open Jvm Sem ClassFile Op Lib Jvm.Stand Jvm.Free Jvm.Free.XT
/-- WHAT COMES BACK, in the writer's own shape -/
def QV (Z : State) (x : Addr) (N : Int32) (bs : List Int32) (h : Heap) (n0 : Nat) (v : Option Value) (h' : Heap) (L : List Loc) : Prop := v = none ∧ RoadKit.Fr n0 L ∧ RoadKit.Keep h h' [x] ∧ RoadKit.Exa Z h' x ST ∧ RoadKit.Fld Z h' x ST "coder" "B" (.int 0) ∧
  ∃ (t : Addr) (kb : ClassId), n0 ≤ t ∧ h.size ≤ t ∧ ¬ t = x ∧ RoadKit.Fld Z h' x ST "value" "[B" (.ref t) ∧ RoadKit.Arv Z h' t kb .byte N (bs.map Value.int) (.int 0)
/-- **new String(chars) AT A CALL, FOR THE WRITER**: a char[] of n known ints, each 0 to 255 -/
theorem backV {p : Program} {l : Launch} {e : Env} {R : Room} {s : State} {args : Array Value} {below : List Frame} {len W : Nat} {Z : State} {a0 : Array Value} {h : Heap} (hZ : Z.Warmed39 s.vm) (hw : ∀ d ∈ words, d.before a0 Z = true) {kI : Nat} (wi : (Jvm.Cond.instantiable ST kI).before a0 Z = true)
    {x b : Addr} {kC : ClassId} {cs bs : List Int32} {d v0 c0 : Value} {z N : Int32} {n n0 : Nat} (hx0 : n0 ≤ x) (hh0 : n0 ≤ h.size) (E : RoadKit.Exa Z h x ST) (V : RoadKit.Fld Z h x ST "value" "[B" v0) (C : RoadKit.Fld Z h x ST "coder" "B" c0) (K : RoadKit.Arv Z h b kC .char N (cs.map Value.int) d) (S : RoadKit.Sta Z h ST "COMPACT_STRINGS" "Z" (.int z)) (hz : ¬ z = 0)
    (hn : cs.length = n) (hN : N = Int32.ofNat n) (l0 : 0 < n) (l2 : n ≤ 4000) (hp : ∀ c ∈ cs, ¬ c < 0 ∧ ¬ (255 : Int32) < c) (hb : bs = cs.map (fun c => c.toInt8.toInt32)) (hfr : 4 ≤ R.frames) (hlo : W + 65 ≤ R.locals) :
    Back l R p e below s args (⟨"java/lang/String", "<init>", "([C)V"⟩ : MethodName) len W (fun P a => a = #[.ref x, .ref b] ∧ P.U.heap = h ∧ P.cells + 1 ≤ R.cells ∧ P.slots + n ≤ R.slots)
      (fun P _ v B => ∃ L, QV Z x N bs h n0 v B.U.heap L ∧ B.locs = P.locs ++ L ∧ B.cells = P.cells + 1 ∧ B.slots = P.slots + n) := by
  subst hn hN hb
  refine Back.mono (backArv hZ hw wi E V C K S hz (n32 (by omega)) l0 (by omega) (fun c hc => (hp c hc).2) hfr hlo) (fun P a hp => hp) (fun P a v B hp hq => ?_)
  obtain ⟨L, ⟨q1, q2, q3, q4, q5, q6, q7, ⟨kb, v1, v2⟩, q9⟩, hl, hc, hs⟩ := hq
  exact ⟨L, ⟨q1, fun y hy => by rw [q2 y hy]; exact hx0, q3, q5, q7, h.size, kb, hh0, Nat.le_refl _, Nat.ne_of_gt E.lt, q6, by rw [List.map_map]; exact v2⟩, hl, hc, hs⟩
end StrChars.Road
namespace StrChars
open Jvm Sem ClassFile Op Lib Jvm.Stand Jvm.Free.XT Jvm.Free.ALB Jvm.Free.JM Jvm.Free
open Jvm.Lib.Cold (StaticIs)
def hi8 (x : Int32) : Int32 := lo8 (x >>> ((8 : Int32) &&& 31))
/-- what StringUTF16.getChar makes of two bytes -/
def pairCh (u v : Int32) : Int32 := (((u &&& 255) <<< ((0 : Int32) &&& 31)) ||| ((v &&& 255) <<< ((8 : Int32) &&& 31))).toUInt32.toUInt16.toUInt32.toInt32
theorem shr0 (c : Int32) : c >>> ((0 : Int32) &&& 31) = c := by
  have e : ((0 : Int32) &&& 31) = 0 := by decide
  rw [e]
  apply Int32.toBitVec_inj.mp
  rw [Int32.toBitVec_shiftRight]
  have e1 : ((0 : Int32).toBitVec.smod 32) = 0#32 := by decide
  rw [e1, BitVec.sshiftRight_eq']
  exact BitVec.sshiftRight_zero
theorem lo8_and (x : Int32) : (lo8 x &&& 255).toBitVec.toNat = x.toBitVec.toNat % 256 := by
  have h : (lo8 x).toBitVec = (x.toBitVec.signExtend 8).signExtend 32 := by rw [lo8, Int8.toBitVec_toInt32, Int32.toBitVec_toInt8]
  rw [Int32.toBitVec_and, BitVec.toNat_and, h]
  have e : ((x.toBitVec.signExtend 8).signExtend 32).toNat % 256 = x.toBitVec.toNat % 256 := by
    rw [BitVec.toNat_signExtend]
    have hlt := x.toBitVec.isLt
    simp only [BitVec.toNat_setWidth, BitVec.toNat_signExtend]
    split <;> split <;> omega
  rw [← e]
  exact Nat.and_two_pow_sub_one_eq_mod _ 8
theorem pair_says {c : Int32} (h0 : ¬ c < 0) (h1 : ¬ 65535 < c) : pairCh (lo8 c) (hi8 c) = c := by
  rw [Int32.lt_iff_toInt_lt] at h0 h1
  have e0 : (0 : Int32).toInt = 0 := rfl
  have e1 : (65535 : Int32).toInt = 65535 := rfl
  have hc : c.toInt = c.toBitVec.toNat := by
    have := c.toBitVec.isLt
    have e : c.toInt = c.toBitVec.toInt := rfl
    rw [e] at h0 h1
    rw [e]
    rw [BitVec.toInt_eq_toNat_cond] at h0 h1 ⊢
    split at h0 <;> split <;> omega
  have hn : c.toBitVec.toNat < 65536 := by omega
  have a1 := lo8_and c
  have a2 : (hi8 c &&& 255).toBitVec.toNat = c.toBitVec.toNat / 256 := by
    rw [hi8, lo8_and]
    have e : ((8 : Int32) &&& 31) = 8 := by decide
    rw [e, Int32.toBitVec_shiftRight]
    have e2 : ((8 : Int32).toBitVec.smod 32) = 8#32 := by decide
    rw [e2, BitVec.sshiftRight_eq', BitVec.toNat_sshiftRight_of_msb_false (by rw [BitVec.msb_eq_false_iff_two_mul_lt]; omega)]
    show c.toBitVec.toNat >>> 8 % 256 = _
    rw [Nat.shiftRight_eq_div_pow]
    omega
  unfold pairCh
  apply Int32.toBitVec_inj.mp
  apply BitVec.eq_of_toNat_eq
  have f0 : ((0 : Int32) &&& 31) = 0 := by decide
  have f8 : ((8 : Int32) &&& 31) = 8 := by decide
  rw [f0, f8]
  have g : (((lo8 c &&& 255) <<< (0 : Int32)) ||| ((hi8 c &&& 255) <<< (8 : Int32))).toBitVec.toNat = c.toBitVec.toNat := by
    rw [Int32.toBitVec_or, Int32.toBitVec_shiftLeft, Int32.toBitVec_shiftLeft]
    have s0 : ((0 : Int32).toBitVec.smod 32) = 0#32 := by decide
    have s8 : ((8 : Int32).toBitVec.smod 32) = 8#32 := by decide
    rw [s0, s8, BitVec.toNat_or]
    simp only [BitVec.shiftLeft_eq', BitVec.toNat_shiftLeft, a1, a2]
    show (c.toBitVec.toNat % 256) <<< 0 % 2 ^ 32 ||| (c.toBitVec.toNat / 256) <<< 8 % 2 ^ 32 = _
    rw [Nat.shiftLeft_zero, Nat.mod_eq_of_lt (show c.toBitVec.toNat % 256 < 2 ^ 32 by omega), Nat.mod_eq_of_lt (show (c.toBitVec.toNat / 256) <<< 8 < 2 ^ 32 by rw [Nat.shiftLeft_eq]; omega), Nat.or_comm, ← Nat.shiftLeft_add_eq_or_of_lt (by omega), Nat.shiftLeft_eq]
    omega
  show BitVec.toNat (((((lo8 c &&& 255) <<< (0 : Int32)) ||| ((hi8 c &&& 255) <<< (8 : Int32))).toBitVec.setWidth 16).setWidth 32) = _
  rw [BitVec.toNat_setWidth, BitVec.toNat_setWidth, g]
  omega
end StrChars
namespace StrChars
open Jvm Sem ClassFile Op Lib Jvm.Stand Jvm.Free.XT Jvm.Free.ALB Jvm.Free.JM Jvm.Free
open Jvm.Lib.Cold (StaticIs)
theorem shr1 {n : Nat} (h : 2 * n < 2 ^ 31) : Int32.ofNat (2 * n) >>> ((1 : Int32) &&& 31) = Int32.ofNat n := by
  have e : ((1 : Int32) &&& 31) = 1 := by decide
  rw [e]
  apply Int32.toBitVec_inj.mp
  rw [Int32.toBitVec_shiftRight]
  have e1 : ((1 : Int32).toBitVec.smod 32) = 1#32 := by decide
  have hm : (BitVec.ofNat 32 (2 * n)).toNat = 2 * n := by rw [BitVec.toNat_ofNat, Nat.mod_eq_of_lt (by omega)]
  rw [e1, BitVec.sshiftRight_eq']
  apply BitVec.eq_of_toNat_eq
  show ((BitVec.ofNat 32 (2 * n)).sshiftRight 1).toNat = (BitVec.ofNat 32 n).toNat
  rw [BitVec.toNat_sshiftRight_of_msb_false (by rw [BitVec.msb_eq_false_iff_two_mul_lt, hm]; omega), hm, BitVec.toNat_ofNat, Nat.shiftRight_eq_div_pow]
  omega
/-- charAt's cast of a byte read back -/
def chr8 (u : Int32) : Int32 := (u &&& 255).toUInt32.toUInt16.toUInt32.toInt32
theorem chr8_lo8 {c : Int32} (h0 : ¬ c < 0) (h1 : ¬ 255 < c) : chr8 (lo8 c) = c := by
  have t : ∀ k : Fin 256, (Int32.ofNat k.val).toUInt32.toUInt16.toUInt32.toInt32 = Int32.ofNat k.val := by decide +kernel
  unfold chr8
  rw [lo8_mask h0 h1]
  rw [Int32.lt_iff_toInt_lt] at h0 h1
  have e0 : (0 : Int32).toInt = 0 := rfl
  have e1 : (255 : Int32).toInt = 255 := rfl
  obtain ⟨k, hk⟩ : ∃ k : Nat, c.toInt = k := ⟨c.toInt.toNat, by omega⟩
  have hx : c = Int32.ofNat k := Int32.toInt_inj.mp (by rw [hk, Int32.toInt_ofNat_small (by omega)])
  rw [hx]
  exact t ⟨k, by omega⟩
/-- the array's cell V codes the n chars f 0 .. f (n - 1) by the coder cd, as the JDK does: coder 1 just where some char is above 255 -/
def Cod (cd : Int32) (n : Nat) (f : Nat → Int32) (V : Cell) : Prop := (cd = 0 ∧ V.slots.size = n ∧ ∀ j, j < n → V.slots[j]? = some (.int (lo8 (f j))) ∧ ¬ 255 < f j) ∨ (cd = 1 ∧ V.slots.size = 2 * n ∧ (∀ j, j < n → V.slots[2 * j]? = some (.int (lo8 (f j))) ∧ V.slots[2 * j + 1]? = some (.int (hi8 (f j)))) ∧ ∃ j, j < n ∧ 255 < f j)
theorem Cod.cd {cd : Int32} {n : Nat} {f : Nat → Int32} {V : Cell} (h : Cod cd n f V) : cd = 0 ∨ cd = 1 := h.imp (fun q => q.1) fun q => q.1
theorem Cod.len {cd : Int32} {n : Nat} {f : Nat → Int32} {V : Cell} (h : Cod cd n f V) (hs : V.slots.size < 2 ^ 31) : Int32.ofNat V.slots.size >>> (cd &&& 31) = Int32.ofNat n := by
  rcases h with ⟨rfl, h, -⟩ | ⟨rfl, h, -⟩
  · rw [shr0, h]
  · rw [h, shr1 (by omega)]
/-- **x is a String of the n chars f 0 .. f (n - 1)**, Latin-1 or UTF-16; its array at t has the cell V -/
def Txt (x t : Addr) (V : Cell) (cd : Int32) (n : Nat) (f : Nat → Int32) (U : State) : Prop := Exact "java/lang/String" x U ∧ Has x "java/lang/String" "value" "[B" (.ref t) U ∧ Has x "java/lang/String" "coder" "B" (.int cd) U ∧ XT.Arr .byte t V U ∧ Cod cd n f V ∧ ∀ j, j < n → ¬ f j < 0 ∧ ¬ 65535 < f j
theorem Txt.mv {x t : Addr} {V : Cell} {cd : Int32} {n : Nat} {f : Nat → Int32} {U U' : State} (h : Txt x t V cd n f U) (hal : U.vm.Alike U'.vm) (hh : U'.heap = U.heap) : Txt x t V cd n f U' := ⟨h.1.mv hal hh, h.2.1.mv hal hh, h.2.2.1.mv hal hh, h.2.2.2.1.mv hal hh, h.2.2.2.2⟩
namespace Cdr
def yN : MethodName := ⟨"java/lang/String", "coder", "()B"⟩
abbrev yB : ByteArray := jdk_42_method_152_code
theorem d0 : decode yB 0 = .ok (.getstatic 38, 3) := by decide +kernel
theorem d3 : decode yB 3 = .ok (.ifCond (.eq) 10, 3) := by decide +kernel
theorem d6 : decode yB 6 = .ok (.aload_n 0, 1) := by decide +kernel
theorem d7 : decode yB 7 = .ok (.getfield 15, 3) := by decide +kernel
theorem d10 : decode yB 10 = .ok (.goto 4, 3) := by decide +kernel
theorem d14 : decode yB 14 = .ok (.ireturn, 1) := by decide +kernel
def site : List Cond := [.fieldLink "java/lang/String" 38 "java/lang/String" "COMPACT_STRINGS" "Z", .fieldLink "java/lang/String" 15 "java/lang/String" "coder" "B"]
def tab : Cond := tabOf yN yB 1 (some .byte) site
def P (x : Addr) (cd z : Int32) (args : Array Value) (s : State) : Prop := args = #[.ref x] ∧ Has x "java/lang/String" "coder" "B" (.int cd) s ∧ (cd = 0 ∨ cd = 1) ∧ StaticIs s "java/lang/String" "COMPACT_STRINGS" "Z" (.int z) ∧ ¬ z = 0
def E (cd : Int32) (r : Option Value) (s u : State) : Prop := XT.PureE (some (.int cd)) r s u
theorem law (l : Launch) (x : Addr) (cd z : Int32) : Law l yN 1 0 0 0 yB 1 (some .byte) site (P x cd z) (E cd) [] 0 0 := by
  refine Law.of_walk (plainFor_of_name (by decide +kernel)) (by decide +kernel) (by decide +kernel) (by decide) (fun _ _ h => by rw [h.1]; rfl) (fun _ U U' hal hh h => ⟨h.1, h.2.1.mv hal hh, h.2.2.1, h.2.2.2.1.there hal hh, h.2.2.2.2⟩) (fun r U U' V V' h1 hal h2 h => XT.PureE.mv r U U' V V' h1 hal h2 h) ?_
  intro p e s m args below meth c s₁ X0 hexec hbytes hml hret hlk hnm hown hh0 W hP
  obtain ⟨rfl, hx, hc, s1, hz⟩ := hP
  have c1 : Steps p.tables e below (s₁.setTop (entryFrame m #[.ref x] 1)) (s₁.setTop (mkF m 0 #[.val (.ref x)] [])) := entry rfl
  obtain ⟨T2, X2, q2, st2⟩ := X0.sget hexec hown (wk W (.fieldLink "java/lang/String" 38 "java/lang/String" "COMPACT_STRINGS" "Z")) s1 (fun _ _ h => by rw [hh0]; exact h) (g := (mkF m 0 #[.val (.ref x)] [])) rfl (hb hbytes d0)
  have hh2 := q2.trans hh0
  have c3 : Steps p.tables e below (s₁.setTop (entryFrame m #[.ref x] 1)) (T2.setTop (mkF m 7 #[.val (.ref x)] [.ref x])) := (c1.trans (st2 _ (Steps.refl _))).trans (by
    refine XS.ifNo X2.here hexec rfl (hb hbytes d3) rfl (i0_eq_f hz) ?_
    refine XS.aloadN X2.here hexec rfl (hb hbytes d6) rfl rfl ?_
    exact Steps.refl _)
  obtain ⟨T4, X4, q4, st4⟩ := X2.hget hexec hown (wk W (.fieldLink "java/lang/String" 15 "java/lang/String" "coder" "B")) (hx.mv X2.warmed.alike hh2) (g := (mkF m 7 #[.val (.ref x)] [.ref x])) rfl (rest := []) rfl (hb hbytes d7)
  have c5 : Steps p.tables e below (s₁.setTop (entryFrame m #[.ref x] 1)) (T4.setTop (mkF m 14 #[.val (.ref x)] [.int cd])) := (c3.trans (st4 _ (Steps.refl _))).trans (by
    refine XS.goto X4.here hexec rfl (pc0 := 10) rfl (hb hbytes d10) (by decide) rfl ?_
    exact Steps.refl _)
  exact ⟨T4, some (.int cd), _, _, _, X4, rfl, rfl, rfl, (fun h => by cases h), ⟨rfl, q4.trans hh2⟩, fun fs hl => c5.trans (X4.ireturnOut hexec hret (by rcases hc with rfl | rfl <;> rfl) (Or.inr (Or.inr (Or.inl rfl))) (hb hbytes d14) hl)⟩
end Cdr
namespace Len
def yN : MethodName := ⟨"java/lang/String", "length", "()I"⟩
abbrev yB : ByteArray := jdk_42_method_54_code
theorem d0 : decode yB 0 = .ok (.aload_n 0, 1) := by decide +kernel
theorem d1 : decode yB 1 = .ok (.getfield 9, 3) := by decide +kernel
theorem d4 : decode yB 4 = .ok (.arraylength, 1) := by decide +kernel
theorem d5 : decode yB 5 = .ok (.aload_n 0, 1) := by decide +kernel
theorem d6 : decode yB 6 = .ok (.invokevirtual 335, 3) := by decide +kernel
theorem d9 : decode yB 9 = .ok (.ishr, 1) := by decide +kernel
theorem d10 : decode yB 10 = .ok (.ireturn, 1) := by decide +kernel
def site : List Cond := [.fieldLink "java/lang/String" 9 "java/lang/String" "value" "[B", Cdr.tab] ++ virtW "java/lang/String" 335 "java/lang/String" Cdr.yN Cdr.yN
def tab : Cond := tabOf yN yB 1 (some .int) site
def P (x t : Addr) (V : Cell) (cd : Int32) (n : Nat) (f : Nat → Int32) (z : Int32) (args : Array Value) (s : State) : Prop := args = #[.ref x] ∧ Txt x t V cd n f s ∧ StaticIs s "java/lang/String" "COMPACT_STRINGS" "Z" (.int z) ∧ ¬ z = 0
def E (n : Nat) (r : Option Value) (s u : State) : Prop := XT.PureE (some (.int (Int32.ofNat n))) r s u
/-- length() of a String of n chars, in either coding -/
theorem law (l : Launch) (x t : Addr) (V : Cell) (cd : Int32) (n : Nat) (f : Nat → Int32) (z : Int32) : Law l yN 1 0 1 13 yB 1 (some .int) site (P x t V cd n f z) (E n) [] 0 0 := by
  refine Law.of_walk (plainFor_of_name (by decide +kernel)) (by decide +kernel) (by decide +kernel) (by decide) (fun _ _ h => by rw [h.1]; rfl) (fun _ U U' hal hh h => ⟨h.1, h.2.1.mv hal hh, h.2.2.1.there hal hh, h.2.2.2⟩) (fun r U U' V V' h1 hal h2 h => XT.PureE.mv r U U' V V' h1 hal h2 h) ?_
  intro p e s m args below meth c s₁ X0 hexec hbytes hml hret hlk hnm hown hh0 W hP
  obtain ⟨rfl, hx, s1, hz⟩ := hP
  have v31 := hx.2.2.2.1.2.2.2
  have c1 : Steps p.tables e below (s₁.setTop (entryFrame m #[.ref x] 1)) (s₁.setTop (mkF m 1 #[.val (.ref x)] [.ref x])) := Steps.trans (entry rfl) (by
    show Steps p.tables e below (s₁.setTop (mkF m 0 #[.val (.ref x)] [])) _
    refine XS.aloadN X0.here hexec rfl (hb hbytes d0) rfl rfl ?_
    exact Steps.refl _)
  obtain ⟨T2, X2, q2, st2⟩ := X0.hget hexec hown (wk W (.fieldLink "java/lang/String" 9 "java/lang/String" "value" "[B")) (hx.mv X0.warmed.alike hh0).2.1 (g := (mkF m 1 #[.val (.ref x)] [.ref x])) rfl (rest := []) rfl (hb hbytes d1)
  have hh2 := q2.trans hh0
  have hx2 := hx.mv X2.warmed.alike hh2
  have c3 : Steps p.tables e below (s₁.setTop (entryFrame m #[.ref x] 1)) (T2.setTop (mkF m 6 #[.val (.ref x)] [.ref x, .int (Int32.ofNat V.slots.size)])) := (c1.trans (st2 _ (Steps.refl _))).trans (by
    refine X2.alen hexec hx2.2.2.2.1 rfl rfl (hb hbytes d4) ?_
    refine XS.aloadN X2.here hexec rfl (hb hbytes d5) rfl rfl ?_
    exact Steps.refl _)
  obtain ⟨v4, T4, X4, E4, g4⟩ := X2.callV hexec (Cdr.law l x cd z) hown (wks W (virtW "java/lang/String" 335 "java/lang/String" Cdr.yN Cdr.yN)) rfl (by decide) (wk W Cdr.tab) (W := 1) (Nat.le_of_ble_eq_true rfl) (Nat.le_of_ble_eq_true rfl) (Nat.le_refl _) (Nat.le_refl _) (hx2.1.fc X2.warmed.alike) hx2.1.is (g := (mkF m 6 #[.val (.ref x)] [.ref x, .int (Int32.ofNat V.slots.size)])) rfl (by rw [hml]; rfl) c3 (argsL := []) (rest := [.int (Int32.ofNat V.slots.size)]) rfl rfl (by show 2 * 0 + (1 + 0) ≤ _; decide) (hb hbytes d6) (⟨rfl, hx2.2.2.1, hx.2.2.2.2.1.cd, s1.there X2.warmed.alike hh2, hz⟩)
  obtain ⟨rfl, q4⟩ := E4
  have c5 : Steps p.tables e below (s₁.setTop (entryFrame m #[.ref x] 1)) (T4.setTop (mkF m 10 #[.val (.ref x)] [.int (Int32.ofNat V.slots.size >>> (cd &&& 31))])) := Steps.trans g4 (by
    refine ishr X4.here hexec rfl (hb hbytes d9) rfl ?_
    exact Steps.refl _)
  rw [hx.2.2.2.2.1.len v31] at c5
  exact ⟨T4, some (.int (Int32.ofNat n)), _, _, _, X4, rfl, rfl, rfl, (fun h => by cases h), ⟨rfl, q4.trans hh2⟩, fun fs hl => c5.trans (X4.ireturnOut hexec hret rfl (Or.inl rfl) (hb hbytes d10) hl)⟩
theorem pays {l : Launch} {R : Room} {p : Program} {e : Env} {below : List Frame} {s : State} {sargs : Array Value} {len W : Nat} (x t : Addr) (V : Cell) (cd : Int32) (n : Nat) (f : Nat → Int32) (z : Int32) (htab : tab.before sargs s = true) (hfr : 2 ≤ R.frames) (hlo : W + 25 ≤ R.locals) :
    Back l R p e below s sargs yN len W (fun A₁ a₁ => A₁.cells + 0 ≤ R.cells ∧ A₁.slots + 0 ≤ R.slots ∧ P x t V cd n f z a₁ A₁.U) (fun A₁ _ v₁ B₁ => E n v₁ A₁.U B₁.U ∧ B₁.locs = A₁.locs ++ [] ∧ B₁.cells = A₁.cells + 0 ∧ B₁.slots = A₁.slots + 0) :=
  (law l x t V cd n f z).pays htab hfr (by omega)
end Len
end StrChars
namespace StrChars.Road
open Jvm Sem ClassFile Op Lib Jvm.Stand Jvm.Free Jvm.Free.XT
open Jvm.Lib.Cold (StaticIs)
theorem consq {a : Array Value} {s : State} {c : Jvm.Cond} {L : List Jvm.Cond} (h0 : c.before a s = true) (h : ∀ w ∈ L, w.before a s = true) : ∀ w ∈ c :: L, w.before a s = true := fun w hw => (List.mem_cons.mp hw).elim (fun e => e ▸ h0) (h w)
/-- the words of String.length(), either coding -/
abbrev wordsLen : List Jvm.Cond := [.code Len.yN Len.yB 1 (some .int), .initialized ST, .fieldLink ST 9 ST "value" "[B", .fieldLink ST 38 ST "COMPACT_STRINGS" "Z", .fieldLink ST 15 ST "coder" "B", .code Cdr.yN Cdr.yB 1 (some .byte), .methodLink ST 335 Cdr.yN, .declares Cdr.yN, .selects ST Cdr.yN Cdr.yN, .instanceMethod Cdr.yN]
theorem tabLen_of {a : Array Value} {s : State} (h : ∀ w ∈ wordsLen, w.before a s = true) : Len.tab.before a s = true := by
  have hc : Cdr.tab.before a s = true := unparts (wk h (.code Cdr.yN Cdr.yB 1 (some .byte))) (wks h (.initialized Cdr.yN.cls :: Cdr.site))
  have q := consq hc h
  exact unparts (wk q (.code Len.yN Len.yB 1 (some .int))) (wks q (.initialized Len.yN.cls :: Len.site))
theorem movedLen {Z s : State} {a0 args : Array Value} (hZ : Z.Warmed39 s.vm) (hw : ∀ d ∈ wordsLen, d.before a0 Z = true) : ∀ d ∈ wordsLen, d.before args s = true := fun d hd => by
  have q := hw d hd
  have t : ∀ d ∈ wordsLen, d = .arrayClass .byte ∨ (d.onTables && d.keepsFace) = true := by decide +kernel
  rcases t d hd with rfl | t
  · exact RoadKit.mvA hZ q
  · exact RoadKit.mv hZ q t
/-- the bytes of the chars cs, low before high -/
def wideBytes : List Int32 → List Value
  | [] => []
  | c :: cs => .int (lo8 c) :: .int (hi8 c) :: wideBytes cs
theorem wide_lo (d : Value) : ∀ (cs : List Int32) (j : Nat), j < cs.length → (wideBytes cs).getD (2 * j) d = .int (lo8 (cs.getD j 0))
  | [], j, h => absurd h (Nat.not_lt_zero j)
  | c :: cs, 0, _ => rfl
  | c :: cs, j + 1, h => by
    have q := wide_lo d cs j (by simpa using h)
    rw [show 2 * (j + 1) = 2 * j + 1 + 1 from by omega]
    simpa [wideBytes] using q
theorem wide_hi (d : Value) : ∀ (cs : List Int32) (j : Nat), j < cs.length → (wideBytes cs).getD (2 * j + 1) d = .int (hi8 (cs.getD j 0))
  | [], j, h => absurd h (Nat.not_lt_zero j)
  | c :: cs, 0, _ => rfl
  | c :: cs, j + 1, h => by
    have q := wide_hi d cs j (by simpa using h)
    rw [show 2 * (j + 1) + 1 = 2 * j + 1 + 1 + 1 from by omega]
    simpa [wideBytes] using q
theorem low_at (d : Value) (cs : List Int32) (j : Nat) (h : j < cs.length) : (cs.map fun c => Value.int (lo8 c)).getD j d = .int (lo8 (cs.getD j 0)) := by
  simp [List.getD_eq_getElem?_getD, h]
/-- an array of N2 bytes vs codes the chars cs by the coder cd -/
def CodA (cs : List Int32) (cd N2 : Int32) (vs : List Value) : Prop := (cd = 0 ∧ N2 = Int32.ofNat cs.length ∧ vs = (cs.map fun c => Value.int (lo8 c)) ∧ ∀ c ∈ cs, ¬ 255 < c) ∨ (cd = 1 ∧ N2 = Int32.ofNat (2 * cs.length) ∧ vs = wideBytes cs ∧ ∃ c ∈ cs, 255 < c)
theorem CodA.cod {cs : List Int32} {cd N2 : Int32} {vs : List Value} {V : Cell} (h : CodA cs cd N2 vs) (hn : 2 * cs.length < 2 ^ 31) (hs : V.slots.size = N2.toNatClampNeg) (hv : RoadKit.Has V vs (.int 0)) : Cod cd cs.length (fun j => cs.getD j 0) V := by
  rcases h with ⟨rfl, rfl, rfl, h⟩ | ⟨rfl, rfl, rfl, c, hc, hw⟩
  · rw [n32 (by omega)] at hs
    exact Or.inl ⟨rfl, hs, fun j hj => ⟨by rw [hv j (by omega), low_at _ _ _ hj], by
      have e : cs.getD j 0 = cs[j] := by simp [List.getD_eq_getElem?_getD, hj]
      show ¬ 255 < cs.getD j 0
      rw [e]; exact h _ (List.getElem_mem _)⟩⟩
  · rw [n32 (by omega)] at hs
    obtain ⟨j, hj, rfl⟩ := List.getElem_of_mem hc
    exact Or.inr ⟨rfl, hs, fun j hj => ⟨by rw [hv _ (by omega), wide_lo _ _ _ hj], by rw [hv _ (by omega), wide_hi _ _ _ hj]⟩, j, hj, by
      have e : cs.getD j 0 = cs[j] := by simp [List.getD_eq_getElem?_getD, hj]
      show 255 < cs.getD j 0
      rw [e]; exact hw⟩
/-- an object of exactly java/lang/String, its two fields found: as the laws ask it -/
theorem strObj {Z U : State} {a0 : Array Value} {kI : Nat} (wi : (Jvm.Cond.instantiable ST kI).before a0 Z = true) (al : Z.vm.Alike U.vm) {x : Addr} {v0 c0 : Value} (E : RoadKit.Exa Z U.heap x ST) (V : RoadKit.Fld Z U.heap x ST "value" "[B" v0) (C : RoadKit.Fld Z U.heap x ST "coder" "B" c0) :
    ∃ (D : Cell) (fV fC : Field), Blank ST x D U ∧ Found ST "value" "[B" fV U ∧ Found ST "coder" "B" fC U ∧ D.slots[fV.slot]? = some v0 ∧ D.slots[fC.slot]? = some c0 ∧ RoadKit.slotOf Z ST "value" "[B" = fV.slot ∧ RoadKit.slotOf Z ST "coder" "B" = fC.slot := by
  obtain ⟨D, cfV, kV, iV, fV, hD, gV, stV, knV, obV, asV, slV⟩ := V
  obtain ⟨D', cfC, kC, iC, fC, hD', gC, stC, -, -, asC, slC⟩ := C
  cases hD.symm.trans hD'
  obtain ⟨D2, kD, e1, e2, e3, e4, e5⟩ := E
  cases hD.symm.trans e1
  obtain ⟨c2, k2, i1, i2, i3, -⟩ := Cond.instantiable_spec wi
  cases e2.symm.trans i1
  cases e3.symm.trans i2
  obtain ⟨kU, u1, u2⟩ := al.2.2 _ _ e3
  exact ⟨D, fV, fC, ⟨hD, ⟨knV, fun q hq => by rw [hq] at obV; cases obV⟩, by rw [al.findClass]; exact e2, kU, u1, by rw [u2]; exact i3, by rw [u2]; exact e5 i3⟩, ⟨SBG.found_only al ⟨cfV, kV, iV, gV⟩, stV⟩, ⟨SBG.found_only al ⟨cfC, kC, iC, gC⟩, stC⟩, slV, slC, by simp [RoadKit.slotOf, gV], by simp [RoadKit.slotOf, gC]⟩
theorem sta_is {Z U : State} (al : Z.vm.Alike U.vm) {C n d : String} {v : Value} (S : RoadKit.Sta Z U.heap C n d v) : StaticIs U C n d v := by
  obtain ⟨cfS, iS, kS, fS, st, cS, t1, t2, t3, t4, t5, t6, t7⟩ := S
  exact StaticIs.there (s := { Z with heap := U.heap }) ⟨cfS, iS, kS, fS, st, cS, t1, t2, t3, t4, t5, (fun q => by rw [q] at t6; cases t6), t7⟩ al rfl
/-- **length() OF SUCH A STRING** -/
theorem lenW {p : Program} {l : Launch} {e : Env} {R : Room} {s : State} {args : Array Value} {below : List Frame} {len W : Nat} {Z : State} {a0 : Array Value} {h : Heap} (hZ : Z.Warmed39 s.vm) (hw : ∀ d ∈ wordsLen, d.before a0 Z = true) {kI : Nat} (wi : (Jvm.Cond.instantiable ST kI).before a0 Z = true)
    {x t : Addr} {kb : ClassId} {cs : List Int32} {cd N2 z : Int32} {vs : List Value} (E : RoadKit.Exa Z h x ST) (V : RoadKit.Fld Z h x ST "value" "[B" (.ref t)) (C : RoadKit.Fld Z h x ST "coder" "B" (.int cd)) (K : RoadKit.Arv Z h t kb .byte N2 vs (.int 0)) (hc : CodA cs cd N2 vs) (hb : ∀ c ∈ cs, ¬ c < 0 ∧ ¬ (65535 : Int32) < c)
    (S : RoadKit.Sta Z h ST "COMPACT_STRINGS" "Z" (.int z)) (hz : ¬ z = 0) (l2 : cs.length ≤ 4000) (hfr : 2 ≤ R.frames) (hlo : W + 25 ≤ R.locals) :
    Back l R p e below s args (⟨"java/lang/String", "length", "()I"⟩ : MethodName) len W (fun P a => a = #[.ref x] ∧ P.U.heap = h ∧ P.cells + 0 ≤ R.cells ∧ P.slots + 0 ≤ R.slots)
      (fun P _ v B => ∃ L, (v = some (.int (Int32.ofNat cs.length)) ∧ L = [] ∧ B.U.heap = h) ∧ B.locs = P.locs ++ L ∧ B.cells = P.cells + 0 ∧ B.slots = P.slots + 0) := by
  obtain ⟨A, K1, K2, K3, K4, K5, K6⟩ := K
  have hcod := hc.cod (by omega) K3 K5
  intro m meth c P g ig mk a X hg hsize hdg hW hn hp'
  obtain ⟨rfl, rfl, r1, r2⟩ := hp'
  have al : Z.vm.Alike P.U.vm := hZ.alike.trans X.warmed.alike
  obtain ⟨D, fV, fC, hB, F1, F2, g1, g2, -, -⟩ := strObj wi al E V C
  have hx : Txt x t A cd cs.length (fun j => cs.getD j 0) P.U := ⟨⟨_, hB.2.2.1, D, hB.1, rfl, by cases q : D.vm <;> first | rfl | exact absurd q (hB.2.1.2 _)⟩, Has.of hB F1 g1, Has.of hB F2 g2, ⟨K1.1, State.isArrayOf_alike al K1.2.1, K1.2.2, by rcases hcod with ⟨-, q, -⟩ | ⟨-, q, -⟩ <;> omega⟩, hcod, fun j hj => by
    have e : cs.getD j 0 = cs[j] := by simp [List.getD_eq_getElem?_getD, hj]
    show ¬ cs.getD j 0 < 0 ∧ ¬ 65535 < cs.getD j 0
    rw [e]; exact hb _ (List.getElem_mem _)⟩
  obtain ⟨v, B, X', ⟨⟨hv, hh⟩, hl, hk, hs⟩, st⟩ := Len.pays x t A cd cs.length (fun j => cs.getD j 0) z (tabLen_of (movedLen hZ hw)) hfr hlo m meth c P g ig mk _ X hg hsize hdg hW hn ⟨r1, r2, rfl, hx, sta_is al S, hz⟩
  exact ⟨v, B, X', ⟨[], ⟨hv, rfl, hh⟩, hl, hk, hs⟩, st⟩
end StrChars.Road
namespace StrChars
open Jvm Sem ClassFile Op Lib Jvm.Stand Jvm.Free.XT Jvm.Free.ALB Jvm.Free.JM Jvm.Free
open Jvm.Lib.Cold (StaticIs)
namespace Emp
def yN : MethodName := ⟨"java/lang/String", "isEmpty", "()Z"⟩
abbrev yB : ByteArray := jdk_42_method_55_code
theorem d0 : decode yB 0 = .ok (.aload_n 0, 1) := by decide +kernel
theorem d1 : decode yB 1 = .ok (.getfield 9, 3) := by decide +kernel
theorem d4 : decode yB 4 = .ok (.arraylength, 1) := by decide +kernel
theorem d5 : decode yB 5 = .ok (.ifCond (.ne) 7, 3) := by decide +kernel
theorem d8 : decode yB 8 = .ok (.iconst 1, 1) := by decide +kernel
theorem d9 : decode yB 9 = .ok (.goto 4, 3) := by decide +kernel
theorem d12 : decode yB 12 = .ok (.iconst 0, 1) := by decide +kernel
theorem d13 : decode yB 13 = .ok (.ireturn, 1) := by decide +kernel
def site : List Cond := [.fieldLink "java/lang/String" 9 "java/lang/String" "value" "[B"]
def tab : Cond := tabOf yN yB 1 (some .boolean) site
def P (x t : Addr) (V : Cell) (cd : Int32) (n : Nat) (f : Nat → Int32) (args : Array Value) (s : State) : Prop := args = #[.ref x] ∧ Txt x t V cd n f s
def E (n : Nat) (r : Option Value) (s u : State) : Prop := XT.PureE (some (.int (if n = 0 then 1 else 0))) r s u
/-- isEmpty() of a String of n chars -/
theorem law (l : Launch) (x t : Addr) (V : Cell) (cd : Int32) (n : Nat) (f : Nat → Int32) : Law l yN 1 0 0 0 yB 1 (some .boolean) site (P x t V cd n f) (E n) [] 0 0 := by
  refine Law.of_walk (plainFor_of_name (by decide +kernel)) (by decide +kernel) (by decide +kernel) (by decide) (fun _ _ h => by rw [h.1]; rfl) (fun _ U U' hal hh h => ⟨h.1, h.2.mv hal hh⟩) (fun r U U' V V' h1 hal h2 h => XT.PureE.mv r U U' V V' h1 hal h2 h) ?_
  intro p e s m args below meth c s₁ X0 hexec hbytes hml hret hlk hnm hown hh0 W hP
  obtain ⟨rfl, hx⟩ := hP
  have v31 := hx.2.2.2.1.2.2.2
  have c1 : Steps p.tables e below (s₁.setTop (entryFrame m #[.ref x] 1)) (s₁.setTop (mkF m 1 #[.val (.ref x)] [.ref x])) := Steps.trans (entry rfl) (by
    show Steps p.tables e below (s₁.setTop (mkF m 0 #[.val (.ref x)] [])) _
    refine XS.aloadN X0.here hexec rfl (hb hbytes d0) rfl rfl ?_
    exact Steps.refl _)
  obtain ⟨T2, X2, q2, st2⟩ := X0.hget hexec hown (wk W (.fieldLink "java/lang/String" 9 "java/lang/String" "value" "[B")) (hx.mv X0.warmed.alike hh0).2.1 (g := (mkF m 1 #[.val (.ref x)] [.ref x])) rfl (rest := []) rfl (hb hbytes d1)
  have hh2 := q2.trans hh0
  have hx2 := hx.mv X2.warmed.alike hh2
  have c3 : Steps p.tables e below (s₁.setTop (entryFrame m #[.ref x] 1)) (T2.setTop (mkF m 5 #[.val (.ref x)] [.int (Int32.ofNat V.slots.size)])) := (c1.trans (st2 _ (Steps.refl _))).trans (by
    refine X2.alen hexec hx2.2.2.2.1 rfl rfl (hb hbytes d4) ?_
    exact Steps.refl _)
  have hz : V.slots.size = 0 ↔ n = 0 := by
    rcases hx.2.2.2.2.1 with ⟨-, q, -⟩ | ⟨-, q, -⟩ <;> omega
  by_cases h0 : n = 0
  · have c4 : Steps p.tables e below (s₁.setTop (entryFrame m #[.ref x] 1)) (T2.setTop (mkF m 13 #[.val (.ref x)] [.int 1])) := c3.trans (by
      refine XS.ifNo X2.here hexec rfl (hb hbytes d5) rfl (i0_ne_f (by rw [hz.mpr h0]; rfl)) ?_
      refine iconstV X2.here hexec rfl 1 (hb hbytes d8) (by decide) ?_
      refine XS.goto X2.here hexec rfl (pc0 := 9) rfl (hb hbytes d9) (by decide) rfl ?_
      exact Steps.refl _)
    exact ⟨T2, some (.int 1), _, _, _, X2, rfl, rfl, rfl, (fun h => by cases h), ⟨by rw [if_pos h0], hh2⟩, fun fs hl => c4.trans (X2.ireturnOut hexec hret rfl (Or.inr (Or.inl rfl)) (hb hbytes d13) hl)⟩
  · have c4 : Steps p.tables e below (s₁.setTop (entryFrame m #[.ref x] 1)) (T2.setTop (mkF m 13 #[.val (.ref x)] [.int 0])) := c3.trans (by
      refine XS.ifYes X2.here hexec rfl (pc0 := 5) rfl (hb hbytes d5) rfl (i0_ne_t (nz32 v31 (by omega))) (by decide) rfl ?_
      refine iconstV X2.here hexec rfl 0 (hb hbytes d12) (by decide) ?_
      exact Steps.refl _)
    exact ⟨T2, some (.int 0), _, _, _, X2, rfl, rfl, rfl, (fun h => by cases h), ⟨by rw [if_neg h0], hh2⟩, fun fs hl => c4.trans (X2.ireturnOut hexec hret rfl (Or.inr (Or.inl rfl)) (hb hbytes d13) hl)⟩
theorem pays {l : Launch} {R : Room} {p : Program} {e : Env} {below : List Frame} {s : State} {sargs : Array Value} {len W : Nat} (x t : Addr) (V : Cell) (cd : Int32) (n : Nat) (f : Nat → Int32) (htab : tab.before sargs s = true) (hfr : 1 ≤ R.frames) (hlo : W + 12 ≤ R.locals) :
    Back l R p e below s sargs yN len W (fun A₁ a₁ => A₁.cells + 0 ≤ R.cells ∧ A₁.slots + 0 ≤ R.slots ∧ P x t V cd n f a₁ A₁.U) (fun A₁ _ v₁ B₁ => E n v₁ A₁.U B₁.U ∧ B₁.locs = A₁.locs ++ [] ∧ B₁.cells = A₁.cells + 0 ∧ B₁.slots = A₁.slots + 0) :=
  (law l x t V cd n f).pays htab hfr (by omega)
end Emp
end StrChars
namespace StrChars.Road
open Jvm Sem ClassFile Op Lib Jvm.Stand Jvm.Free Jvm.Free.XT
open Jvm.Lib.Cold (StaticIs)
/-- the words of String.isEmpty() -/
abbrev wordsEmp : List Jvm.Cond := [.code Emp.yN Emp.yB 1 (some .boolean), .initialized ST, .fieldLink ST 9 ST "value" "[B"]
theorem tabEmp_of {a : Array Value} {s : State} (h : ∀ w ∈ wordsEmp, w.before a s = true) : Emp.tab.before a s = true := unparts (wk h (.code Emp.yN Emp.yB 1 (some .boolean))) (wks h (.initialized Emp.yN.cls :: Emp.site))
theorem movedEmp {Z s : State} {a0 args : Array Value} (hZ : Z.Warmed39 s.vm) (hw : ∀ d ∈ wordsEmp, d.before a0 Z = true) : ∀ d ∈ wordsEmp, d.before args s = true := fun d hd => by
  have t : ∀ d ∈ wordsEmp, (d.onTables && d.keepsFace) = true := by decide +kernel
  exact RoadKit.mv hZ (hw d hd) (t d hd)
/-- the road's facts of a String, as the laws ask it -/
theorem txt_of {Z U : State} {a0 : Array Value} {kI : Nat} (wi : (Jvm.Cond.instantiable ST kI).before a0 Z = true) (al : Z.vm.Alike U.vm) {x t : Addr} {kb : ClassId} {cs : List Int32} {cd N2 : Int32} {vs : List Value} (E : RoadKit.Exa Z U.heap x ST) (V : RoadKit.Fld Z U.heap x ST "value" "[B" (.ref t)) (C : RoadKit.Fld Z U.heap x ST "coder" "B" (.int cd)) (K : RoadKit.Arv Z U.heap t kb .byte N2 vs (.int 0)) (hc : CodA cs cd N2 vs) (hb : ∀ c ∈ cs, ¬ c < 0 ∧ ¬ (65535 : Int32) < c) (l2 : cs.length ≤ 4000) :
    ∃ A, Txt x t A cd cs.length (fun j => cs.getD j 0) U := by
  obtain ⟨A, K1, K2, K3, K4, K5, K6⟩ := K
  have hcod := hc.cod (by omega) K3 K5
  obtain ⟨D, fV, fC, hB, F1, F2, g1, g2, -, -⟩ := strObj wi al E V C
  exact ⟨A, ⟨_, hB.2.2.1, D, hB.1, rfl, by cases q : D.vm <;> first | rfl | exact absurd q (hB.2.1.2 _)⟩, Has.of hB F1 g1, Has.of hB F2 g2, ⟨K1.1, State.isArrayOf_alike al K1.2.1, K1.2.2, by rcases hcod with ⟨-, q, -⟩ | ⟨-, q, -⟩ <;> omega⟩, hcod, fun j hj => by
    have e : cs.getD j 0 = cs[j] := by simp [List.getD_eq_getElem?_getD, hj]
    show ¬ cs.getD j 0 < 0 ∧ ¬ 65535 < cs.getD j 0
    rw [e]; exact hb _ (List.getElem_mem _)⟩
/-- **isEmpty() OF SUCH A STRING** -/
theorem empW {p : Program} {l : Launch} {e : Env} {R : Room} {s : State} {args : Array Value} {below : List Frame} {len W : Nat} {Z : State} {a0 : Array Value} {h : Heap} (hZ : Z.Warmed39 s.vm) (hw : ∀ d ∈ wordsEmp, d.before a0 Z = true) {kI : Nat} (wi : (Jvm.Cond.instantiable ST kI).before a0 Z = true)
    {x t : Addr} {kb : ClassId} {cs : List Int32} {cd N2 : Int32} {vs : List Value} (E : RoadKit.Exa Z h x ST) (V : RoadKit.Fld Z h x ST "value" "[B" (.ref t)) (C : RoadKit.Fld Z h x ST "coder" "B" (.int cd)) (K : RoadKit.Arv Z h t kb .byte N2 vs (.int 0)) (hc : CodA cs cd N2 vs) (hb : ∀ c ∈ cs, ¬ c < 0 ∧ ¬ (65535 : Int32) < c) (l2 : cs.length ≤ 4000) (hfr : 1 ≤ R.frames) (hlo : W + 12 ≤ R.locals) :
    Back l R p e below s args (⟨"java/lang/String", "isEmpty", "()Z"⟩ : MethodName) len W (fun P a => a = #[.ref x] ∧ P.U.heap = h ∧ P.cells + 0 ≤ R.cells ∧ P.slots + 0 ≤ R.slots)
      (fun P _ v B => ∃ L, (v = some (.int (if cs.length = 0 then 1 else 0)) ∧ L = [] ∧ B.U.heap = h) ∧ B.locs = P.locs ++ L ∧ B.cells = P.cells + 0 ∧ B.slots = P.slots + 0) := by
  intro m meth c P g ig mk a X hg hsize hdg hW hn hp'
  obtain ⟨rfl, rfl, r1, r2⟩ := hp'
  have al : Z.vm.Alike P.U.vm := hZ.alike.trans X.warmed.alike
  obtain ⟨A, hx⟩ := txt_of wi al E V C K hc hb l2
  obtain ⟨v, B, X', ⟨⟨hv, hh⟩, hl, hk, hs⟩, st⟩ := Emp.pays x t A cd cs.length (fun j => cs.getD j 0) (tabEmp_of (movedEmp hZ hw)) hfr hlo m meth c P g ig mk _ X hg hsize hdg hW hn ⟨r1, r2, rfl, hx⟩
  exact ⟨v, B, X', ⟨[], ⟨hv, rfl, hh⟩, hl, hk, hs⟩, st⟩
end StrChars.Road
namespace StrChars.Road
open Jvm Sem ClassFile Op Lib Jvm.Stand Jvm.Free Jvm.Free.XT
open Jvm.Lib.Cold (StaticIs)
/-- what backV says of its String, as the contracts of this text ask it: cs's low bytes, coder 0 -/
theorem codOf {cs : List Int32} {n : Nat} (hn : cs.length = n) (hb : ∀ c ∈ cs, ¬ 255 < c) : CodA cs 0 (Int32.ofNat n) ((cs.map lo8).map Value.int) := Or.inl ⟨rfl, by rw [hn], by simp [List.map_map, Function.comp_def], hb⟩
end StrChars.Road
end Jvm.Pilot.@@N@@

namespace Jvm.Pilot.@@N@@
open Jvm Jvm.ClassFile Sem Op Lib Jvm.Free Jvm.Stand Jvm.LawKit Jvm.RoadKit Bundle Jvm.Pilot.@@N@@.Jvm.D
section OwnKit
variable {p : Program} {l : Launch} {e : Env} {R : Room} {s : State} {m : MethodId} {args : Array Value} {below : List Frame} {meth : Method} {c : Code} {T : State} {locs : List Loc} {cells slots : Nat}
def own_Go (p : Program) (e : Env) (below : List Frame) (P : Outcome → State → Prop) (U : State) : Prop := ∃ s₂ o, Steps p.tables e below U s₂ ∧ s₂.status = .running ∧ Ended s₂ below o ∧ P o s₂
abbrev own_Post (s : State) (Q : Option Value → Heap → List Loc → Prop) (K N : Nat) : Outcome → State → Prop := fun o U => ∃ v L, o = .returned v ∧ Q v U.heap L ∧ FrameEnd s o U L K N
theorem own_to {P : Outcome → State → Prop} {U V : State} (k : own_Go p e below P V) (h : ∀ t, Steps p.tables e below V t → Steps p.tables e below U t) : own_Go p e below P U := by
  obtain ⟨s₂, o, a, r⟩ := k
  exact ⟨s₂, o, h _ a, r⟩
theorem own_start {U : State} {K N : Nat} (Q : Option Value → Heap → List Loc → Prop) (k : own_Go p e below (own_Post s Q K N) U) : ∃ s₂ o, Steps p.tables e below U s₂ ∧ s₂.status = .running ∧ Ended s₂ below o ∧ ∃ v L, o = .returned v ∧ Q v s₂.heap L ∧ FrameEnd s o s₂ L K N := k
theorem own_irem {tb : Tables} [Ours tb] {e : Env} {below : List Frame} {T target : State} {m : MethodId} {c : Code} {g : JFrame} (h : At T m c below) (hx : tb.exec = Jvm.exec) (hg : g.method = m) {x y : Int32} {rest : List Value} (hd : decode c.code g.pc = .ok (.irem, 1)) (hs : g.stack = .int y :: .int x :: rest) (hy : y ≠ 0)
    (hr : Steps tb e below (T.setTop { g with pc := g.pc + 1, stack := .int (x % y) :: rest }) target) : Steps tb e below (T.setTop g) target := by
  refine XS.irem h hx hg hd hs hy ?_
  have q : x - x / y * y = x % y := Jvm.irem_eq_mod x y
  rw [q]; exact hr
section Out
variable {Q : Option Value → Heap → List Loc → Prop} {K N : Nat}
theorem own_out (X : Stand p l e R s m args below meth c T locs cells slots) {v : Option Value} (hv : meth.sig.returnType = none → v = none) (hlk : meth.locks = false) {g : JFrame}
    (st : ∀ fs, (∀ (f : JFrame) (acts : List Action), f.method = m → f.locked = none → f.entered = [] → (doReturn e (T.setTop f) acts v).1 = T.setFrames fs) → Steps p.tables e below (T.setTop g) (T.setFrames fs)) (hq : Q v T.heap locs) (hk : cells ≤ K) (hn : slots ≤ N) : own_Go p e below (own_Post s Q K N) (T.setTop g) := by
  obtain ⟨fs, hr, hrun, hended, hW, hsame⟩ := X.leave (v := v) hv hlk
  exact ⟨_, _, st fs hr, hrun, hended, v, locs, rfl, hq, ⟨_, rfl⟩, hW, hsame.mono hk hn⟩
theorem own_retN (X : Stand p l e R s m args below meth c T locs cells slots) (hx : p.tables.exec = Jvm.exec) {pc : Nat} {Ls : Array Slot} {z w : Int32} {t : FieldType} {rest : List Value} (hret : meth.sig.returnType = some t) (ht : t = .boolean ∨ t = .byte ∨ t = .char ∨ t = .short) (hn' : nar t z = w) (hlk : meth.locks = false)
    (hd : decode c.code pc = .ok (.ireturn, 1)) (hq : Q (some (.int w)) T.heap locs) (hk : cells ≤ K) (hn : slots ≤ N) : own_Go p e below (own_Post s Q K N) (T.setTop (mkF m pc Ls (.int z :: rest))) := by
  subst hn'
  exact own_out X (fun h => by rw [hret] at h; cases h) hlk (fun fs hr => retN X hx hret ht hd hr) hq hk hn
theorem own_retI (X : Stand p l e R s m args below meth c T locs cells slots) (hx : p.tables.exec = Jvm.exec) {pc : Nat} {Ls : Array Slot} {z : Int32} {rest : List Value} (hret : meth.sig.returnType = some .int) (hlk : meth.locks = false)
    (hd : decode c.code pc = .ok (.ireturn, 1)) (hq : Q (some (.int z)) T.heap locs) (hk : cells ≤ K) (hn : slots ≤ N) : own_Go p e below (own_Post s Q K N) (T.setTop (mkF m pc Ls (.int z :: rest))) :=
  own_out X (fun h => by rw [hret] at h; cases h) hlk (fun fs hr => retOut X hx hret rfl (Or.inl ⟨rfl, Or.inl rfl, _, rfl⟩) hd hr) hq hk hn
theorem own_retJ (X : Stand p l e R s m args below meth c T locs cells slots) (hx : p.tables.exec = Jvm.exec) {pc : Nat} {Ls : Array Slot} {z : Int64} {rest : List Value} (hret : meth.sig.returnType = some .long) (hlk : meth.locks = false)
    (hd : decode c.code pc = .ok (.lreturn, 1)) (hq : Q (some (.long z)) T.heap locs) (hk : cells ≤ K) (hn : slots ≤ N) : own_Go p e below (own_Post s Q K N) (T.setTop (mkF m pc Ls (.long z :: rest))) :=
  own_out X (fun h => by rw [hret] at h; cases h) hlk (fun fs hr => retOut X hx hret rfl (Or.inr (Or.inl ⟨rfl, rfl, _, rfl⟩)) hd hr) hq hk hn
theorem own_retR (X : Stand p l e R s m args below meth c T locs cells slots) (hx : p.tables.exec = Jvm.exec) {pc : Nat} {Ls : Array Slot} {w : Value} {t : FieldType} {rest : List Value} (hret : meth.sig.returnType = some t) (ht : t.isReference = true) (hw : w.isRef = true) (hlk : meth.locks = false)
    (hd : decode c.code pc = .ok (.areturn, 1)) (hq : Q (some w) T.heap locs) (hk : cells ≤ K) (hn : slots ≤ N) : own_Go p e below (own_Post s Q K N) (T.setTop (mkF m pc Ls (w :: rest))) :=
  own_out X (fun h => by rw [hret] at h; cases h) hlk (fun fs hr => retOut X hx hret (by cases t <;> first | (cases ht; done) | (cases w <;> first | rfl | (cases hw; done))) (Or.inr (Or.inr (Or.inr (Or.inr ⟨rfl, ht, hw⟩)))) hd hr) hq hk hn
theorem own_retV (X : Stand p l e R s m args below meth c T locs cells slots) (hx : p.tables.exec = Jvm.exec) {pc : Nat} {Ls : Array Slot} (hret : meth.sig.returnType = none) (hlk : meth.locks = false)
    (hd : decode c.code pc = .ok (.return_, 1)) (hq : Q none T.heap locs) (hk : cells ≤ K) (hn : slots ≤ N) : own_Go p e below (own_Post s Q K N) (T.setTop (mkF m pc Ls [])) :=
  own_out X (fun _ => rfl) hlk (fun fs hr => X.returnOut hx hret hd hr) hq hk hn
end Out
abbrev own_PostW (s : State) (Q : Option Value → Heap → List Loc → Prop) (K N : Nat) : Outcome → State → Prop := fun o U => ∃ v L, o = .returned v ∧ Q v U.heap L ∧ ReturnedEndW s o U L K N
theorem own_startW {U : State} {K N : Nat} (Q : Option Value → Heap → List Loc → Prop) (k : own_Go p e below (own_PostW s Q K N) U) : ∃ s₂ o, Steps p.tables e below U s₂ ∧ s₂.status = .running ∧ Ended s₂ below o ∧ ∃ v L, o = .returned v ∧ Q v s₂.heap L ∧ ReturnedEndW s o s₂ L K N := k
section OutW
variable {Q : Option Value → Heap → List Loc → Prop} {K N k0 : Nat} {vm0 : Vm}
theorem own_outW (X : Stand p l e R (s.setVm vm0) m args below meth c T locs cells slots) (hS : s.Since vm0 k0) (hk0 : k0 ≤ T.heap.size) {v : Option Value} (hv : meth.sig.returnType = none → v = none) (hlk : meth.locks = false) {g : JFrame}
    (st : ∀ fs, (∀ (f : JFrame) (acts : List Action), f.method = m → f.locked = none → f.entered = [] → (doReturn e (T.setTop f) acts v).1 = T.setFrames fs) → Steps p.tables e below (T.setTop g) (T.setFrames fs)) (hq : Q v T.heap locs) (hk : cells ≤ K) (hn : slots ≤ N) : own_Go p e below (own_PostW s Q K N) (T.setTop g) := by
  obtain ⟨fs, hr, hrun, hended, h1, h2, h3, hsame⟩ := X.leaveW hS hk0 (v := v) hv hlk
  exact ⟨_, _, st fs hr, hrun, hended, v, locs, rfl, hq, h1, h2, h3, hsame.mono hk hn⟩
theorem own_retNW (X : Stand p l e R (s.setVm vm0) m args below meth c T locs cells slots) (hx : p.tables.exec = Jvm.exec) (hS : s.Since vm0 k0) (hk0 : k0 ≤ T.heap.size) {pc : Nat} {Ls : Array Slot} {z w : Int32} {t : FieldType} {rest : List Value} (hret : meth.sig.returnType = some t) (ht : t = .boolean ∨ t = .byte ∨ t = .char ∨ t = .short) (hn' : nar t z = w) (hlk : meth.locks = false)
    (hd : decode c.code pc = .ok (.ireturn, 1)) (hq : Q (some (.int w)) T.heap locs) (hk : cells ≤ K) (hn : slots ≤ N) : own_Go p e below (own_PostW s Q K N) (T.setTop (mkF m pc Ls (.int z :: rest))) := by
  subst hn'
  exact own_outW X hS hk0 (fun h => by rw [hret] at h; cases h) hlk (fun fs hr => retN X hx hret ht hd hr) hq hk hn
theorem own_retIW (X : Stand p l e R (s.setVm vm0) m args below meth c T locs cells slots) (hx : p.tables.exec = Jvm.exec) (hS : s.Since vm0 k0) (hk0 : k0 ≤ T.heap.size) {pc : Nat} {Ls : Array Slot} {z : Int32} {rest : List Value} (hret : meth.sig.returnType = some .int) (hlk : meth.locks = false)
    (hd : decode c.code pc = .ok (.ireturn, 1)) (hq : Q (some (.int z)) T.heap locs) (hk : cells ≤ K) (hn : slots ≤ N) : own_Go p e below (own_PostW s Q K N) (T.setTop (mkF m pc Ls (.int z :: rest))) :=
  own_outW X hS hk0 (fun h => by rw [hret] at h; cases h) hlk (fun fs hr => retOut X hx hret rfl (Or.inl ⟨rfl, Or.inl rfl, _, rfl⟩) hd hr) hq hk hn
theorem own_retRW (X : Stand p l e R (s.setVm vm0) m args below meth c T locs cells slots) (hx : p.tables.exec = Jvm.exec) (hS : s.Since vm0 k0) (hk0 : k0 ≤ T.heap.size) {pc : Nat} {Ls : Array Slot} {w : Value} {t : FieldType} {rest : List Value} (hret : meth.sig.returnType = some t) (ht : t.isReference = true) (hw : w.isRef = true) (hlk : meth.locks = false)
    (hd : decode c.code pc = .ok (.areturn, 1)) (hq : Q (some w) T.heap locs) (hk : cells ≤ K) (hn : slots ≤ N) : own_Go p e below (own_PostW s Q K N) (T.setTop (mkF m pc Ls (w :: rest))) :=
  own_outW X hS hk0 (fun h => by rw [hret] at h; cases h) hlk (fun fs hr => retOut X hx hret (by cases t <;> first | (cases ht; done) | (cases w <;> first | rfl | (cases hw; done))) (Or.inr (Or.inr (Or.inr (Or.inr ⟨rfl, ht, hw⟩)))) hd hr) hq hk hn
theorem own_retVW (X : Stand p l e R (s.setVm vm0) m args below meth c T locs cells slots) (hx : p.tables.exec = Jvm.exec) (hS : s.Since vm0 k0) (hk0 : k0 ≤ T.heap.size) {pc : Nat} {Ls : Array Slot} (hret : meth.sig.returnType = none) (hlk : meth.locks = false)
    (hd : decode c.code pc = .ok (.return_, 1)) (hq : Q none T.heap locs) (hk : cells ≤ K) (hn : slots ≤ N) : own_Go p e below (own_PostW s Q K N) (T.setTop (mkF m pc Ls [])) :=
  own_outW X hS hk0 (fun _ => rfl) hlk (fun fs hr => X.returnOut hx hret hd hr) hq hk hn
end OutW
theorem own_ole {Z : State} {n0 : Nat} {h : Heap} (X : Old Z n0 h) : n0 ≤ h.size := X.1 ▸ X.2.1
theorem own_hk {T : State} {h : Heap} {k0 : Nat} (e : T.heap = h) (q : k0 ≤ h.size) : k0 ≤ T.heap.size := Nat.le_trans q (Nat.le_of_eq (congrArg Array.size e.symm))
theorem own_lat2 {cs : List Int32} (h : ∀ c ∈ cs, ¬ c < 0 ∧ ¬ (255 : Int32) < c) : ∀ c ∈ cs, ¬ (255 : Int32) < c := fun c hc => (h c hc).2
theorem own_nm0 {a : Addr} : a ∉ ([] : List Addr) := List.not_mem_nil
theorem own_nmS {a b : Addr} {L : List Addr} (h : a ≠ b) (r : a ∉ L) : a ∉ b :: L := fun q => (List.mem_cons.mp q).elim h r
theorem own_cat {v : Value} (h : v.isRef = true) : v.category = 1 := by cases v <;> first | rfl | (cases h; done)
theorem own_narR {v : Value} {C : String} (h : v.isRef = true) : narrow (.object C) v = v := by cases v <;> first | rfl | (cases h; done)
theorem own_fitR {v : Value} {C : String} (h : v.isRef = true) : fits (.object C) v = true := by cases v <;> first | rfl | (cases h; done)
theorem own_all0 {P : Int32 → Prop} : ∀ x ∈ ([] : List Int32), P x := fun _ q => nomatch q
theorem own_allS {P : Int32 → Prop} {y : Int32} {L : List Int32} (q : P y) (r : ∀ x ∈ L, P x) : ∀ x ∈ y :: L, P x := fun x z => (List.mem_cons.mp z).elim (fun u => u ▸ q) (r x)
theorem own_i2c_rng (x : Int32) : ¬ x.toUInt32.toUInt16.toUInt32.toInt32 < 0 ∧ ¬ (65535 : Int32) < x.toUInt32.toUInt16.toUInt32.toInt32 := by
  have q := c_i2c x
  have e1 : (65535 : Int32).toInt = 65535 := rfl
  have e0 : (0 : Int32).toInt = 0 := rfl
  simp only [Int32.lt_iff_toInt_lt, e1, e0]
  omega
theorem own_and255 (x : Int32) : ¬ (x &&& (255 : Int32)).toUInt32.toUInt16.toUInt32.toInt32 < 0 ∧ ¬ (255 : Int32) < (x &&& (255 : Int32)).toUInt32.toUInt16.toUInt32.toInt32 := by
  rw [i2c_mask]
  have q := c_and x 255 (by decide)
  have e1 : (255 : Int32).toInt = 255 := rfl
  have e0 : (0 : Int32).toInt = 0 := rfl
  simp only [Int32.lt_iff_toInt_lt, e1, e0] at q ⊢
  omega
theorem own_up {x : Int32} (h : ¬ x < 0 ∧ ¬ (255 : Int32) < x) : ¬ x < 0 ∧ ¬ (65535 : Int32) < x := by
  have e1 : (255 : Int32).toInt = 255 := rfl
  have e2 : (65535 : Int32).toInt = 65535 := rfl
  have e0 : (0 : Int32).toInt = 0 := rfl
  simp only [Int32.lt_iff_toInt_lt, e1, e2, e0] at h ⊢
  omega
theorem own_i2c_id {x : Int32} (h : ¬ x < 0 ∧ ¬ (65535 : Int32) < x) : x.toUInt32.toUInt16.toUInt32.toInt32 = x := by
  have q := c_i2c x
  have e2 : (65535 : Int32).toInt = 65535 := rfl
  have e0 : (0 : Int32).toInt = 0 := rfl
  simp only [Int32.lt_iff_toInt_lt, e2, e0] at h
  apply Int32.toInt_inj.mp
  omega
theorem own_narC {x : Int32} (h : ¬ x < 0 ∧ ¬ (65535 : Int32) < x) : nar .char x = x := own_i2c_id h
theorem own_fitC {x : Int32} (h : ¬ x < 0 ∧ ¬ (65535 : Int32) < x) : fits .char (.int x) = true := by rw [← own_narC h]; exact fits_nar_char x
theorem own_narB {x : Int32} : nar .byte (x.toInt8.toInt32) = x.toInt8.toInt32 := by
  have h : ∀ y : Int8, y.toInt32.toInt8 = y := fun y => by simp
  show (x.toInt8.toInt32).toInt8.toInt32 = _
  rw [h]
theorem own_narZ {x : Int32} (h : x = 0 ∨ x = 1) : nar .boolean x = x := by rcases h with rfl | rfl <;> rfl
/-- a String that spells the chars cs; its bytes lie in the array u -/
def own_Str (Z : State) (h : Heap) (a u : Addr) (cs : List Int32) : Prop := Exa Z h a "java/lang/String" ∧ ∃ (cd N : Int32) (k : ClassId) (vs : List Value), Fld Z h a "java/lang/String" "value" "[B" (.ref u) ∧ Fld Z h a "java/lang/String" "coder" "B" (.int cd) ∧ Arv Z h u k .byte N vs (.int 0) ∧ StrChars.Road.CodA cs cd N vs ∧ (∀ c ∈ cs, ¬ c < 0 ∧ ¬ (65535 : Int32) < c) ∧ cs.length ≤ 4000
section Str
variable {Z : State} {h h' : Heap} {a u b : Addr} {cs : List Int32} {ws : List Addr} {sl : Nat} {v : Value}
theorem own_Str.lt (F : own_Str Z h a u cs) : a < h.size := F.1.lt
theorem own_Str.lt2 (F : own_Str Z h a u cs) : u < h.size := by obtain ⟨_, _, _, _, _, _, _, K, _⟩ := F; exact K.lt
theorem own_Str.ext (F : own_Str Z h a u cs) (E : Ext h h') : own_Str Z h' a u cs := by
  obtain ⟨x, cd, N, k, vs, f1, f2, f3, r⟩ := F
  exact ⟨x.ext E, cd, N, k, vs, f1.ext E, f2.ext E, f3.ext E, r⟩
theorem own_Str.keep (F : own_Str Z h a u cs) (K : Keep h h' ws) (q : a ∉ ws) (q' : u ∉ ws) : own_Str Z h' a u cs := by
  obtain ⟨x, cd, N, k, vs, f1, f2, f3, r⟩ := F
  exact ⟨x.keep K, cd, N, k, vs, f1.keep K q, f2.keep K q, f3.keep K q', r⟩
theorem own_Str.wr (F : own_Str Z h a u cs) (W : Wr h h' b sl v) (q : a ≠ b) (q' : u ≠ b) : own_Str Z h' a u cs := by
  obtain ⟨x, cd, N, k, vs, f1, f2, f3, r⟩ := F
  exact ⟨x.wr W, cd, N, k, vs, f1.other W (Or.inl q), f2.other W (Or.inl q), f3.other W q', r⟩
theorem own_mkStr0 {k : ClassId} {N : Int32} (E : Exa Z h a "java/lang/String") (V : Fld Z h a "java/lang/String" "value" "[B" (.ref u)) (C : Fld Z h a "java/lang/String" "coder" "B" (.int 0)) (K : Arv Z h u k .byte N ((cs.map (fun c => c.toInt8.toInt32)).map Value.int) (.int 0)) (hN : N = Int32.ofNat cs.length) (hp : ∀ c ∈ cs, ¬ c < 0 ∧ ¬ (255 : Int32) < c) (l : cs.length ≤ 4000) : own_Str Z h a u cs :=
  ⟨E, 0, N, k, _, V, C, K, by rw [hN]; exact StrChars.Road.codOf rfl (fun c hc => (hp c hc).2), fun c hc => own_up (hp c hc), l⟩
theorem own_mkLit {k : ClassId} {N : Int32} {vs : List Value} (E : Exa Z h a "java/lang/String") (V : Fld Z h a "java/lang/String" "value" "[B" (.ref u)) (C : Fld Z h a "java/lang/String" "coder" "B" (.int 0)) (K : Arv Z h u k .byte N vs (.int 0)) (hN : N = Int32.ofNat cs.length) (hp : ∀ c ∈ cs, ¬ c < 0 ∧ ¬ (255 : Int32) < c) (hv : vs = cs.map (fun c => Value.int (StrChars.lo8 c))) (l : cs.length ≤ 4000) : own_Str Z h a u cs :=
  ⟨E, 0, N, k, vs, V, C, K, Or.inl ⟨rfl, hN, hv, fun c hc => (hp c hc).2⟩, fun c hc => own_up (hp c hc), l⟩
/-- what a String of signs up to 255 holds -/
theorem own_Str.latin (F : own_Str Z h a u cs) (hp : ∀ c ∈ cs, ¬ (255 : Int32) < c) : ∃ (N : Int32) (k : ClassId) (vs : List Value), Exa Z h a "java/lang/String" ∧ Fld Z h a "java/lang/String" "value" "[B" (.ref u) ∧ Fld Z h a "java/lang/String" "coder" "B" (.int 0) ∧ Arv Z h u k .byte N vs (.int 0) ∧ StrChars.Road.CodA cs 0 N vs ∧ (∀ c ∈ cs, ¬ c < 0 ∧ ¬ (65535 : Int32) < c) ∧ cs.length ≤ 4000 := by
  obtain ⟨x, cd, N, k, vs, f1, f2, f3, f4, f5, f6⟩ := F
  have e : cd = 0 := by
    rcases f4 with ⟨q, -⟩ | ⟨-, -, -, c, hc, hw⟩
    · exact q
    · exact absurd hw (hp c hc)
  subst e
  exact ⟨N, k, vs, x, f1, f2, f3, f4, f5, f6⟩
theorem own_Str.latinL (F : own_Str Z h a u cs) (hp : ∀ c ∈ cs, ¬ (255 : Int32) < c) : ∃ (k : ClassId), Exa Z h a "java/lang/String" ∧ Fld Z h a "java/lang/String" "value" "[B" (.ref u) ∧ Fld Z h a "java/lang/String" "coder" "B" (.int 0) ∧ Arv Z h u k .byte (Int32.ofNat cs.length) (cs.map (fun c => Value.int (StrChars.lo8 c))) (.int 0) ∧ (∀ c ∈ cs, ¬ c < 0 ∧ ¬ (65535 : Int32) < c) := by
  obtain ⟨x, cd, N, k, vs, f1, f2, f3, f4, f5, f6⟩ := F
  rcases f4 with ⟨q1, q2, q3, -⟩ | ⟨-, -, -, c, hc, hw⟩
  · subst q1 q2 q3
    exact ⟨k, x, f1, f2, f3, f5⟩
  · exact absurd hw (hp c hc)
end Str
theorem own_exA {Z : State} {h : Heap} {a u : Addr} {C : String} {n : Nat} {a0 : Array Value} {k : ClassId} {ty : FieldType} {z : Int32} {vs : List Value} {d : Value} (A : Arv Z h u k ty z vs d) (E : Exa Z h a C) (w : (Cond.instantiable C n).before a0 Z = true) : u ≠ a := by
  intro q
  subst q
  obtain ⟨cell, kk, e1, e2, e3, -, -⟩ := E
  obtain ⟨cl, ⟨a1, ⟨-, k', a3, comp, a4⟩, -⟩, -⟩ := A
  cases e1.symm.trans a1
  obtain ⟨t', k2, g1, g2, g3, -⟩ := Cond.instantiable_spec w
  cases g1.symm.trans e2
  cases g2.symm.trans a3
  rw [a4] at g3
  cases g3
theorem own_exU {Z : State} {h : Heap} {a u b : Addr} {cs : List Int32} {C : String} {n : Nat} {a0 : Array Value} (F : own_Str Z h b u cs) (E : Exa Z h a C) (w : (Cond.instantiable C n).before a0 Z = true) : u ≠ a := by
  obtain ⟨_, _, _, _, _, _, _, K, _⟩ := F
  exact own_exA K E w
section Sets
theorem own_staI {s : State} {args : Array Value} {C n d : String} {k : Int32} (h : (Cond.eq (.static C n d) (.int k)).value args s none s [] = some true) (hi : (Cond.initializedFor C n d).before args s = true) : Sta s s.heap C n d (.int k) := by
  obtain ⟨x, y, h1, h2, h3, h4⟩ := cmp_v (Or.inl h)
  cases (Term.int_eval (args := args) (first := s) (o := none) (idx := []) (s := s) k).symm.trans h2
  obtain ⟨z, rfl⟩ := h4
  have e := gotT (Cond.eq_ints h1 (Term.int_eval k)) h
  subst e
  exact Sta.start h1 (Or.inl hi)
theorem own_fldI {s : State} {args : Array Value} {t : Term} {a : Addr} {C n d : String} {k : Int32} (ev : t.eval args s none [] s = some (.ref a)) (h : (Cond.eq (.field t C n d) (.int k)).value args s none s [] = some true) : s.fieldOf? a C n d = some (.int k) := by
  obtain ⟨x, y, h1, h2, h3, h4⟩ := cmp_v (Or.inl h)
  cases (Term.int_eval (args := args) (first := s) (o := none) (idx := []) (s := s) k).symm.trans h2
  obtain ⟨z, rfl⟩ := h4
  have e := gotT (Cond.eq_ints h1 (Term.int_eval k)) h
  subst e
  rw [fld_at ev] at h1
  exact h1
end Sets
section Not
variable {Z : State} {a0 : Array Value}
theorem own_NSroot {O K : String} {n : Nat} (w : (Cond.noSuperclass O).before a0 Z = true) (wk : (Cond.instantiable K n).before a0 Z = true) (hn : O ≠ K) : NS Z O K := by
  obtain ⟨c, k, h1, h2, h3, -, -⟩ := Cond.noSuperclass_spec w
  obtain ⟨t, k2, g1, g2, g3, -⟩ := Cond.instantiable_spec wk
  have ne := ids_ne h1 g1 hn
  refine ⟨c, t, h1, g1, fun fuel => ?_⟩
  cases fuel with
  | zero => rfl
  | succ f => simp [Vm.isSubclassAux, ne, h2, h3]
theorem own_NSno {C S K : String} {n : Nat} (w : (Cond.superclass C S).before a0 Z = true) (wk : (Cond.instantiable K n).before a0 Z = true) (m : NS Z C K) (hn : C ≠ K) : ∃ c t, Z.vm.findClass C = some c ∧ Z.vm.findClass K = some t ∧ Z.vm.assignable c t = false := by
  obtain ⟨c, t, h0, g0, n3⟩ := m
  obtain ⟨p, k, kp, h1, h2, h3, h4, h5, -, h7⟩ := Cond.superclass_spec h0 w
  obtain ⟨t', k', g1, g2, g3, g4⟩ := Cond.instantiable_spec wk
  cases g0.symm.trans g1
  have ne := ids_ne h0 g0 hn
  refine ⟨c, t, h0, g0, ?_⟩
  show Z.vm.assignableAux (255 + 1) c t = false
  have g5 : k'.isInterface = false := (Bool.or_eq_false_iff.mp g4.1).1
  simp [Vm.assignableAux, ne, h2, g2, h5, g3, g5, Vm.isSubclass, n3]
end Not
end OwnKit

def own_St (Z : State) : Prop := (∃ G1 : Int32, Sta Z Z.heap "java/lang/String" "COMPACT_STRINGS" "Z" (.int G1) ∧ ¬ (G1 = (0 : Int32))) ∧ (∃ G3 : Value, Sta Z Z.heap "jdk/internal/util/Preconditions" "SIOOBE_FORMATTER" "Ljava/util/function/BiFunction;" G3 ∧ G3.isRef = true) ∧ (Sta Z Z.heap "java/lang/StringUTF16" "$assertionsDisabled" "Z" (.int (1 : Int32)) ∧ Sta Z Z.heap "java/lang/StringUTF16" "HI_BYTE_SHIFT" "I" (.int (0 : Int32)) ∧ Sta Z Z.heap "java/lang/StringUTF16" "LO_BYTE_SHIFT" "I" (.int (8 : Int32))) ∧ True
theorem own_hln {a0 : Array Value} {Z : State} (hw : ∀ d ∈ tables_1, d.before a0 Z = true) : ∀ d ∈ StrChars.Road.wordsLen, d.before a0 Z = true := fun d hd => hw d ((by decide +kernel : ∀ d ∈ StrChars.Road.wordsLen, d ∈ tables_1) d hd)
theorem own_hem {a0 : Array Value} {Z : State} (hw : ∀ d ∈ tables_1, d.before a0 Z = true) : ∀ d ∈ StrChars.Road.wordsEmp, d.before a0 Z = true := fun d hd => hw d ((by decide +kernel : ∀ d ∈ StrChars.Road.wordsEmp, d ∈ tables_1) d hd)

def own_loV (c : Int32) : Value := .int (StrChars.lo8 c)
theorem own_n32 {k : Nat} (h : k < 2147483648) : (Int32.ofNat k).toNatClampNeg = k := Int32.toNatClampNeg_ofNat_of_lt h
theorem own_lt32 {a b : Nat} (hb : b < 2147483648) (h : a < b) : Int32.ofNat a < Int32.ofNat b := (Int32.ofNat_lt_ofNat (by omega) hb).mpr h
theorem own_nlt32 {a b : Nat} (ha : a < 2147483648) (h : b ≤ a) : ¬ Int32.ofNat a < Int32.ofNat b := fun h' => by have := (Int32.ofNat_lt_ofNat ha (by omega)).mp h'; omega
theorem own_neg32 {a : Nat} (ha : a < 2147483648) : ¬ Int32.ofNat a < 0 := own_nlt32 (b := 0) ha (Nat.zero_le _)
theorem own_ne32 {a b : Nat} (ha : a < 2147483648) (hb : b < 2147483648) (h : a ≠ b) : ¬ Int32.ofNat a = Int32.ofNat b := fun q => h (by rw [← own_n32 ha, q, own_n32 hb])
theorem own_succ32 (k : Nat) : (Int32.ofNat k + (1 : Int32)) = Int32.ofNat (k + 1) := by rw [Int32.ofNat_add]; rfl
theorem own_shl32 (k : Nat) : (Int32.ofNat k) <<< ((1 : Int32) &&& 31) = Int32.ofNat (2 * k) := by
  rw [shlm (m := 2) (by decide)]
  apply Int32.toBitVec_inj.mp
  simp [Int32.toBitVec_mul, BitVec.ofNat_mul, BitVec.mul_comm]
theorem own_in {c : Cell} {z j : Int32} {i : Nat} (S : c.slots.size = z.toNatClampNeg) (h0 : ¬ j < 0) (hj : j.toNatClampNeg = i) (hi : i < z.toNatClampNeg) : ¬ (j < 0 ∨ c.slots.size ≤ j.toNatClampNeg) := by
  rintro (h | h)
  · exact h0 h
  · rw [S, hj] at h; omega
theorem own_getApp (ps qs : List Int32) (c : Int32) (d : Value) : ((ps ++ c :: qs).map Value.int).getD ps.length d = .int c := by
  simp [List.getD_eq_getElem?_getD]
theorem own_getLo (ps qs : List Int32) (c : Int32) (d : Value) : ((ps ++ c :: qs).map own_loV).getD ps.length d = .int (StrChars.lo8 c) := by
  simp [List.getD_eq_getElem?_getD, own_loV]
theorem own_setApp {α : Type} (A B : List α) (z v : α) : (A ++ z :: B).set A.length v = A ++ v :: B := by
  induction A with
  | nil => rfl
  | cons a A ih => simp [ih]
theorem own_setApp1 {α : Type} (A B : List α) (y z v : α) : (A ++ y :: z :: B).set (A.length + 1) v = A ++ y :: v :: B := by
  induction A with
  | nil => rfl
  | cons a A ih => simp [ih]
theorem own_set1 (ps qs : List Int32) (c : Int32) : (ps.map own_loV ++ List.replicate (c :: qs).length (Value.int (0 : Int32))).set ps.length (Value.int (StrChars.lo8 c)) = (ps ++ [c]).map own_loV ++ List.replicate qs.length (Value.int (0 : Int32)) := by
  have h := own_setApp (ps.map own_loV) (List.replicate qs.length (Value.int (0 : Int32))) (Value.int (0 : Int32)) (Value.int (StrChars.lo8 c))
  rw [List.length_map] at h
  rw [show (c :: qs).length = qs.length + 1 from rfl, List.replicate_succ, h]
  simp [own_loV]
theorem own_wbLen (ps : List Int32) : (StrChars.Road.wideBytes ps).length = 2 * ps.length := by
  induction ps with
  | nil => rfl
  | cons c ps ih => simp [StrChars.Road.wideBytes, ih]; omega
theorem own_wbApp (ps qs : List Int32) : StrChars.Road.wideBytes (ps ++ qs) = StrChars.Road.wideBytes ps ++ StrChars.Road.wideBytes qs := by
  induction ps with
  | nil => rfl
  | cons c ps ih => simp [StrChars.Road.wideBytes, ih]
theorem own_wbLo (ps qs : List Int32) (c : Int32) (d : Value) : (StrChars.Road.wideBytes (ps ++ c :: qs)).getD (2 * ps.length) d = .int (StrChars.lo8 c) := by
  rw [own_wbApp, ← own_wbLen]
  simp [List.getD_eq_getElem?_getD, StrChars.Road.wideBytes]
theorem own_wbHi (ps qs : List Int32) (c : Int32) (d : Value) : (StrChars.Road.wideBytes (ps ++ c :: qs)).getD (2 * ps.length + 1) d = .int (StrChars.hi8 c) := by
  rw [own_wbApp, ← own_wbLen]
  simp [List.getD_eq_getElem?_getD, StrChars.Road.wideBytes, List.getElem?_append_right]
theorem own_rep2 {α : Type} (n : Nat) (z : α) : List.replicate (2 * (n + 1)) z = z :: z :: List.replicate (2 * n) z := by
  rw [show 2 * (n + 1) = 2 * n + 1 + 1 from by omega]; rfl
theorem own_sh0 (c : Int32) : (c >>> ((0 : Int32) &&& 31)) = c := StrChars.shr0 c
theorem own_mem {ps qs : List Int32} {c : Int32} {cs : List Int32} (h : cs = ps ++ c :: qs) : c ∈ cs := by rw [h]; simp
theorem own_mkStrC {Z : State} {h : Heap} {a u : Addr} {cs : List Int32} {cd N : Int32} {k : ClassId} {vs : List Value} (E : Exa Z h a "java/lang/String") (V : Fld Z h a "java/lang/String" "value" "[B" (.ref u)) (C : Fld Z h a "java/lang/String" "coder" "B" (.int cd)) (K : Arv Z h u k .byte N vs (.int 0)) (hc : StrChars.Road.CodA cs cd N vs) (hb : ∀ c ∈ cs, ¬ c < 0 ∧ ¬ (65535 : Int32) < c) (l : cs.length ≤ 4000) : own_Str Z h a u cs := ⟨E, cd, N, k, vs, V, C, K, hc, hb, l⟩
theorem own_cod0 (n : Nat) : (((((Int32.ofNat n) - (Int32.ofNat n)).toUInt32 >>> ((31 : Int32) &&& 31).toUInt32).toInt32).toInt8.toInt32) = (0 : Int32) := by
  rw [Int32.sub_self]; decide
theorem own_cod1 (n : Nat) (h0 : 0 < n) (h : n ≤ 4000) : (((((Int32.ofNat n) - (Int32.ofNat (2 * n))).toUInt32 >>> ((31 : Int32) &&& 31).toUInt32).toInt32).toInt8.toInt32) = (1 : Int32) := by
  have e : (Int32.ofNat n) - (Int32.ofNat (2 * n)) = - Int32.ofNat n := by
    rw [show 2 * n = n + n from by omega, Int32.ofNat_add]
    apply Int32.toBitVec_inj.mp
    simp only [Int32.toBitVec_sub, Int32.toBitVec_add, Int32.toBitVec_neg]
    apply BitVec.eq_of_toInt_eq
    simp only [BitVec.toInt_sub, BitVec.toInt_add, BitVec.toInt_neg]
    simp
    congr 1
    omega
  rw [e]
  have q := c_iushr (- Int32.ofNat n) 31 31 (by decide) (by decide)
  have r := c_ineg (Int32.ofNat n)
  have t : (Int32.ofNat n).toInt = n := Int32.toInt_ofNat_of_lt (by omega)
  have s := rng32 (- Int32.ofNat n)
  have u : (((- Int32.ofNat n).toUInt32 >>> ((31 : Int32) &&& 31).toUInt32).toInt32) = (1 : Int32) := by
    apply Int32.toInt_inj.mp
    rw [q]
    have e1 : (1 : Int32).toInt = 1 := rfl
    rw [e1]
    rw [t] at r
    omega
  rw [u]; decide

def own_ctl (c : Int32) : Prop := ¬ (31 : Int32) < c ∨ (¬ c < (127 : Int32) ∧ ¬ (159 : Int32) < c)
theorem own_iso5 {c : Int32} (h : ¬ c < 0 ∧ ¬ (65535 : Int32) < c) : ((c.toUInt32 >>> ((5 : Int32) &&& 31).toUInt32).toInt32) = (0 : Int32) ↔ ¬ (31 : Int32) < c := by
  have q := c_iushr c 5 5 (by decide) (by decide)
  have e1 : (65535 : Int32).toInt = 65535 := rfl
  have e0 : (0 : Int32).toInt = 0 := rfl
  have e31 : (31 : Int32).toInt = 31 := rfl
  simp only [Int32.lt_iff_toInt_lt, e1, e0, e31] at h ⊢
  rw [← Int32.toInt_inj, q, e0]
  omega
def own_in3 (n : Int32) : Prop := n = 1 ∨ n = 2 ∨ n = 3
theorem own_rem3 (x : Int32) : own_in3 ((1 : Int32) + ((x &&& (2147483647 : Int32)) % (3 : Int32))) := by
  have h := c_irem (x &&& 2147483647) 3 3 rfl
  have h0 := (c_and x 2147483647 (by decide)).1
  have h1 := h.1 h0
  have h2 := c_iadd 1 ((x &&& 2147483647) % 3)
  have r := rng32 ((1 : Int32) + ((x &&& (2147483647 : Int32)) % (3 : Int32)))
  have e1 : (1 : Int32).toInt = 1 := rfl
  have e2 : (2 : Int32).toInt = 2 := rfl
  have e3 : (3 : Int32).toInt = 3 := rfl
  unfold own_in3
  simp only [← Int32.toInt_inj, e1, e2, e3]
  rw [e1] at h2
  omega
theorem own_big {c : Int32} (h : (159 : Int32) < c) : (31 : Int32) < c := by
  have e1 : (159 : Int32).toInt = 159 := rfl
  have e31 : (31 : Int32).toInt = 31 := rfl
  simp only [Int32.lt_iff_toInt_lt, e1, e31] at h ⊢
  omega
theorem own_pn0 : plainName "java/lang/StringUTF16" = true := by first | (simp [plainName, overriddenIn]; done) | decide +kernel
theorem own_d_jdk_52_m3_0 : decode jdk_52_method_3_code 0 = .ok (.iload_n 0, 1) := by decide +kernel
theorem own_d_jdk_52_m3_1 : decode jdk_52_method_3_code 1 = .ok (.ifCond .ge 11, 3) := by decide +kernel
theorem own_d_jdk_52_m3_12 : decode jdk_52_method_3_code 12 = .ok (.iload_n 0, 1) := by decide +kernel
theorem own_d_jdk_52_m3_13 : decode jdk_52_method_3_code 13 = .ok (.ldc 20, 2) := by decide +kernel
theorem own_d_jdk_52_m3_15 : decode jdk_52_method_3_code 15 = .ok (.if_icmp .lt 40, 3) := by decide +kernel
theorem own_d_jdk_52_m3_55 : decode jdk_52_method_3_code 55 = .ok (.iload_n 0, 1) := by decide +kernel
theorem own_d_jdk_52_m3_56 : decode jdk_52_method_3_code 56 = .ok (.iconst 1, 1) := by decide +kernel
theorem own_d_jdk_52_m3_57 : decode jdk_52_method_3_code 57 = .ok (.ishl, 1) := by decide +kernel
theorem own_d_jdk_52_m3_58 : decode jdk_52_method_3_code 58 = .ok (.ireturn, 1) := by decide +kernel
theorem own_d_jdk_52_m2_0 : decode jdk_52_method_2_code 0 = .ok (.iload_n 0, 1) := by decide +kernel
theorem own_pd0 : parseMethodDescriptor "(I)I" = some ⟨[.int], some .int⟩ := by decide +kernel
theorem own_d_jdk_52_m2_1 : decode jdk_52_method_2_code 1 = .ok (.invokestatic 11, 3) := by decide +kernel
theorem own_d_jdk_52_m2_4 : decode jdk_52_method_2_code 4 = .ok (.newarray .byte, 2) := by decide +kernel
theorem own_d_jdk_52_m2_6 : decode jdk_52_method_2_code 6 = .ok (.areturn, 1) := by decide +kernel
theorem own_d_jdk_52_m4_0 : decode jdk_52_method_4_code 0 = .ok (.getstatic 44, 3) := by decide +kernel
theorem own_d_jdk_52_m4_3 : decode jdk_52_method_4_code 3 = .ok (.ifCond .ne 25, 3) := by decide +kernel
theorem own_d_jdk_52_m4_28 : decode jdk_52_method_4_code 28 = .ok (.iload_n 1, 1) := by decide +kernel
theorem own_d_jdk_52_m4_29 : decode jdk_52_method_4_code 29 = .ok (.iconst 1, 1) := by decide +kernel
theorem own_d_jdk_52_m4_30 : decode jdk_52_method_4_code 30 = .ok (.ishl, 1) := by decide +kernel
theorem own_d_jdk_52_m4_31 : decode jdk_52_method_4_code 31 = .ok (.istore_n 1, 1) := by decide +kernel
theorem own_d_jdk_52_m4_32 : decode jdk_52_method_4_code 32 = .ok (.aload_n 0, 1) := by decide +kernel
theorem own_d_jdk_52_m4_33 : decode jdk_52_method_4_code 33 = .ok (.iload_n 1, 1) := by decide +kernel
theorem own_d_jdk_52_m4_34 : decode jdk_52_method_4_code 34 = .ok (.iinc 1 1, 3) := by decide +kernel
theorem own_d_jdk_52_m4_37 : decode jdk_52_method_4_code 37 = .ok (.iload_n 2, 1) := by decide +kernel
theorem own_d_jdk_52_m4_38 : decode jdk_52_method_4_code 38 = .ok (.getstatic 59, 3) := by decide +kernel
theorem own_d_jdk_52_m4_41 : decode jdk_52_method_4_code 41 = .ok (.ishr, 1) := by decide +kernel
theorem own_d_jdk_52_m4_42 : decode jdk_52_method_4_code 42 = .ok (.i2b, 1) := by decide +kernel
theorem own_d_jdk_52_m4_43 : decode jdk_52_method_4_code 43 = .ok (.bastore, 1) := by decide +kernel
theorem own_d_jdk_52_m4_44 : decode jdk_52_method_4_code 44 = .ok (.aload_n 0, 1) := by decide +kernel
theorem own_d_jdk_52_m4_45 : decode jdk_52_method_4_code 45 = .ok (.iload_n 1, 1) := by decide +kernel
theorem own_d_jdk_52_m4_46 : decode jdk_52_method_4_code 46 = .ok (.iload_n 2, 1) := by decide +kernel
theorem own_d_jdk_52_m4_47 : decode jdk_52_method_4_code 47 = .ok (.getstatic 63, 3) := by decide +kernel
theorem own_d_jdk_52_m4_50 : decode jdk_52_method_4_code 50 = .ok (.ishr, 1) := by decide +kernel
theorem own_d_jdk_52_m4_51 : decode jdk_52_method_4_code 51 = .ok (.i2b, 1) := by decide +kernel
theorem own_d_jdk_52_m4_52 : decode jdk_52_method_4_code 52 = .ok (.bastore, 1) := by decide +kernel
theorem own_d_jdk_52_m4_53 : decode jdk_52_method_4_code 53 = .ok (.return_, 1) := by decide +kernel
theorem own_d_jdk_52_m14_8 : decode jdk_52_method_14_code 8 = .ok (.iload 4, 2) := by decide +kernel
theorem own_d_jdk_52_m14_10 : decode jdk_52_method_14_code 10 = .ok (.iload_n 2, 1) := by decide +kernel
theorem own_d_jdk_52_m14_11 : decode jdk_52_method_14_code 11 = .ok (.if_icmp .ge 21, 3) := by decide +kernel
theorem own_d_jdk_52_m14_32 : decode jdk_52_method_14_code 32 = .ok (.aload_n 3, 1) := by decide +kernel
theorem own_d_jdk_52_m14_33 : decode jdk_52_method_14_code 33 = .ok (.areturn, 1) := by decide +kernel
theorem own_d_jdk_52_m14_14 : decode jdk_52_method_14_code 14 = .ok (.aload_n 3, 1) := by decide +kernel
theorem own_d_jdk_52_m14_15 : decode jdk_52_method_14_code 15 = .ok (.iload 4, 2) := by decide +kernel
theorem own_d_jdk_52_m14_17 : decode jdk_52_method_14_code 17 = .ok (.aload_n 0, 1) := by decide +kernel
theorem own_d_jdk_52_m14_18 : decode jdk_52_method_14_code 18 = .ok (.iload_n 1, 1) := by decide +kernel
theorem own_d_jdk_52_m14_19 : decode jdk_52_method_14_code 19 = .ok (.caload, 1) := by decide +kernel
theorem own_pd1 : parseMethodDescriptor "([BII)V" = some ⟨[(.array .byte), .int, .int], none⟩ := by decide +kernel
theorem own_d_jdk_52_m14_20 : decode jdk_52_method_14_code 20 = .ok (.invokestatic 111, 3) := by decide +kernel
theorem own_d_jdk_52_m14_23 : decode jdk_52_method_14_code 23 = .ok (.iinc 1 1, 3) := by decide +kernel
theorem own_d_jdk_52_m14_26 : decode jdk_52_method_14_code 26 = .ok (.iinc 4 1, 3) := by decide +kernel
theorem own_d_jdk_52_m14_29 : decode jdk_52_method_14_code 29 = .ok (.goto (-21), 3) := by decide +kernel
theorem own_d_jdk_52_m14_0 : decode jdk_52_method_14_code 0 = .ok (.iload_n 2, 1) := by decide +kernel
theorem own_pd2 : parseMethodDescriptor "(I)[B" = some ⟨[.int], some (.array .byte)⟩ := by decide +kernel
theorem own_d_jdk_52_m14_1 : decode jdk_52_method_14_code 1 = .ok (.invokestatic 107, 3) := by decide +kernel
theorem own_d_jdk_52_m14_4 : decode jdk_52_method_14_code 4 = .ok (.astore_n 3, 1) := by decide +kernel
theorem own_d_jdk_52_m14_5 : decode jdk_52_method_14_code 5 = .ok (.iconst 0, 1) := by decide +kernel
theorem own_d_jdk_52_m14_6 : decode jdk_52_method_14_code 6 = .ok (.istore 4, 2) := by decide +kernel
theorem own_d_jdk_52_m21_3 : decode jdk_52_method_21_code 3 = .ok (.iload 5, 2) := by decide +kernel
theorem own_d_jdk_52_m21_5 : decode jdk_52_method_21_code 5 = .ok (.iload 4, 2) := by decide +kernel
theorem own_d_jdk_52_m21_7 : decode jdk_52_method_21_code 7 = .ok (.if_icmp .ge 37, 3) := by decide +kernel
theorem own_d_jdk_52_m21_44 : decode jdk_52_method_21_code 44 = .ok (.iload 4, 2) := by decide +kernel
theorem own_d_jdk_52_m21_46 : decode jdk_52_method_21_code 46 = .ok (.ireturn, 1) := by decide +kernel
theorem own_d_jdk_52_m21_10 : decode jdk_52_method_21_code 10 = .ok (.aload_n 0, 1) := by decide +kernel
theorem own_d_jdk_52_m21_11 : decode jdk_52_method_21_code 11 = .ok (.iload_n 1, 1) := by decide +kernel
theorem own_d_jdk_52_m21_12 : decode jdk_52_method_21_code 12 = .ok (.caload, 1) := by decide +kernel
theorem own_d_jdk_52_m21_13 : decode jdk_52_method_21_code 13 = .ok (.istore 6, 2) := by decide +kernel
theorem own_d_jdk_52_m21_15 : decode jdk_52_method_21_code 15 = .ok (.iload 6, 2) := by decide +kernel
theorem own_d_jdk_52_m21_17 : decode jdk_52_method_21_code 17 = .ok (.sipush 255, 3) := by decide +kernel
theorem own_d_jdk_52_m21_20 : decode jdk_52_method_21_code 20 = .ok (.if_icmp .le 6, 3) := by decide +kernel
theorem own_d_jdk_52_m21_23 : decode jdk_52_method_21_code 23 = .ok (.iload 5, 2) := by decide +kernel
theorem own_d_jdk_52_m21_25 : decode jdk_52_method_21_code 25 = .ok (.ireturn, 1) := by decide +kernel
theorem own_d_jdk_52_m21_26 : decode jdk_52_method_21_code 26 = .ok (.aload_n 2, 1) := by decide +kernel
theorem own_d_jdk_52_m21_27 : decode jdk_52_method_21_code 27 = .ok (.iload_n 3, 1) := by decide +kernel
theorem own_d_jdk_52_m21_28 : decode jdk_52_method_21_code 28 = .ok (.iload 6, 2) := by decide +kernel
theorem own_d_jdk_52_m21_30 : decode jdk_52_method_21_code 30 = .ok (.i2b, 1) := by decide +kernel
theorem own_d_jdk_52_m21_31 : decode jdk_52_method_21_code 31 = .ok (.bastore, 1) := by decide +kernel
theorem own_d_jdk_52_m21_32 : decode jdk_52_method_21_code 32 = .ok (.iinc 1 1, 3) := by decide +kernel
theorem own_d_jdk_52_m21_35 : decode jdk_52_method_21_code 35 = .ok (.iinc 3 1, 3) := by decide +kernel
theorem own_d_jdk_52_m21_38 : decode jdk_52_method_21_code 38 = .ok (.iinc 5 1, 3) := by decide +kernel
theorem own_d_jdk_52_m21_41 : decode jdk_52_method_21_code 41 = .ok (.goto (-38), 3) := by decide +kernel
theorem own_d_jdk_52_m21_0 : decode jdk_52_method_21_code 0 = .ok (.iconst 0, 1) := by decide +kernel
theorem own_d_jdk_52_m21_1 : decode jdk_52_method_21_code 1 = .ok (.istore 5, 2) := by decide +kernel
theorem own_d_jdk_52_m5_0 : decode jdk_52_method_5_code 0 = .ok (.getstatic 44, 3) := by decide +kernel
theorem own_d_jdk_52_m5_3 : decode jdk_52_method_5_code 3 = .ok (.ifCond .ne 25, 3) := by decide +kernel
theorem own_d_jdk_52_m5_28 : decode jdk_52_method_5_code 28 = .ok (.iload_n 1, 1) := by decide +kernel
theorem own_d_jdk_52_m5_29 : decode jdk_52_method_5_code 29 = .ok (.iconst 1, 1) := by decide +kernel
theorem own_d_jdk_52_m5_30 : decode jdk_52_method_5_code 30 = .ok (.ishl, 1) := by decide +kernel
theorem own_d_jdk_52_m5_31 : decode jdk_52_method_5_code 31 = .ok (.istore_n 1, 1) := by decide +kernel
theorem own_d_jdk_52_m5_32 : decode jdk_52_method_5_code 32 = .ok (.aload_n 0, 1) := by decide +kernel
theorem own_d_jdk_52_m5_33 : decode jdk_52_method_5_code 33 = .ok (.iload_n 1, 1) := by decide +kernel
theorem own_d_jdk_52_m5_34 : decode jdk_52_method_5_code 34 = .ok (.iinc 1 1, 3) := by decide +kernel
theorem own_d_jdk_52_m5_37 : decode jdk_52_method_5_code 37 = .ok (.baload, 1) := by decide +kernel
theorem own_d_jdk_52_m5_38 : decode jdk_52_method_5_code 38 = .ok (.sipush 255, 3) := by decide +kernel
theorem own_d_jdk_52_m5_41 : decode jdk_52_method_5_code 41 = .ok (.iand, 1) := by decide +kernel
theorem own_d_jdk_52_m5_42 : decode jdk_52_method_5_code 42 = .ok (.getstatic 59, 3) := by decide +kernel
theorem own_d_jdk_52_m5_45 : decode jdk_52_method_5_code 45 = .ok (.ishl, 1) := by decide +kernel
theorem own_d_jdk_52_m5_46 : decode jdk_52_method_5_code 46 = .ok (.aload_n 0, 1) := by decide +kernel
theorem own_d_jdk_52_m5_47 : decode jdk_52_method_5_code 47 = .ok (.iload_n 1, 1) := by decide +kernel
theorem own_d_jdk_52_m5_48 : decode jdk_52_method_5_code 48 = .ok (.baload, 1) := by decide +kernel
theorem own_d_jdk_52_m5_49 : decode jdk_52_method_5_code 49 = .ok (.sipush 255, 3) := by decide +kernel
theorem own_d_jdk_52_m5_52 : decode jdk_52_method_5_code 52 = .ok (.iand, 1) := by decide +kernel
theorem own_d_jdk_52_m5_53 : decode jdk_52_method_5_code 53 = .ok (.getstatic 63, 3) := by decide +kernel
theorem own_d_jdk_52_m5_56 : decode jdk_52_method_5_code 56 = .ok (.ishl, 1) := by decide +kernel
theorem own_d_jdk_52_m5_57 : decode jdk_52_method_5_code 57 = .ok (.ior, 1) := by decide +kernel
theorem own_d_jdk_52_m5_58 : decode jdk_52_method_5_code 58 = .ok (.i2c, 1) := by decide +kernel
theorem own_d_jdk_52_m5_59 : decode jdk_52_method_5_code 59 = .ok (.ireturn, 1) := by decide +kernel
theorem own_d_jdk_52_m16_0 : decode jdk_52_method_16_code 0 = .ok (.iload_n 2, 1) := by decide +kernel
theorem own_d_jdk_52_m16_1 : decode jdk_52_method_16_code 1 = .ok (.newarray .byte, 2) := by decide +kernel
theorem own_d_jdk_52_m16_3 : decode jdk_52_method_16_code 3 = .ok (.astore_n 3, 1) := by decide +kernel
theorem own_d_jdk_52_m16_4 : decode jdk_52_method_16_code 4 = .ok (.aload_n 0, 1) := by decide +kernel
theorem own_d_jdk_52_m16_5 : decode jdk_52_method_16_code 5 = .ok (.iload_n 1, 1) := by decide +kernel
theorem own_d_jdk_52_m16_6 : decode jdk_52_method_16_code 6 = .ok (.aload_n 3, 1) := by decide +kernel
theorem own_d_jdk_52_m16_7 : decode jdk_52_method_16_code 7 = .ok (.iconst 0, 1) := by decide +kernel
theorem own_d_jdk_52_m16_8 : decode jdk_52_method_16_code 8 = .ok (.iload_n 2, 1) := by decide +kernel
theorem own_pd3 : parseMethodDescriptor "([CI[BII)I" = some ⟨[(.array .char), .int, (.array .byte), .int, .int], some .int⟩ := by decide +kernel
theorem own_d_jdk_52_m16_9 : decode jdk_52_method_16_code 9 = .ok (.invokestatic 115, 3) := by decide +kernel
theorem own_d_jdk_52_m16_12 : decode jdk_52_method_16_code 12 = .ok (.istore 4, 2) := by decide +kernel
theorem own_d_jdk_52_m16_14 : decode jdk_52_method_16_code 14 = .ok (.iload 4, 2) := by decide +kernel
theorem own_d_jdk_52_m16_16 : decode jdk_52_method_16_code 16 = .ok (.iload_n 2, 1) := by decide +kernel
theorem own_d_jdk_52_m16_17 : decode jdk_52_method_16_code 17 = .ok (.if_icmp .eq 40, 3) := by decide +kernel
theorem own_d_jdk_52_m16_57 : decode jdk_52_method_16_code 57 = .ok (.aload_n 3, 1) := by decide +kernel
theorem own_d_jdk_52_m16_58 : decode jdk_52_method_16_code 58 = .ok (.areturn, 1) := by decide +kernel
theorem own_d_jdk_52_m16_20 : decode jdk_52_method_16_code 20 = .ok (.aload_n 0, 1) := by decide +kernel
theorem own_d_jdk_52_m16_21 : decode jdk_52_method_16_code 21 = .ok (.iload_n 1, 1) := by decide +kernel
theorem own_d_jdk_52_m16_22 : decode jdk_52_method_16_code 22 = .ok (.iload_n 2, 1) := by decide +kernel
theorem own_pd4 : parseMethodDescriptor "([CII)[B" = some ⟨[(.array .char), .int, .int], some (.array .byte)⟩ := by decide +kernel
theorem own_d_jdk_52_m16_23 : decode jdk_52_method_16_code 23 = .ok (.invokestatic 119, 3) := by decide +kernel
theorem own_d_jdk_52_m16_26 : decode jdk_52_method_16_code 26 = .ok (.astore 5, 2) := by decide +kernel
theorem own_d_jdk_52_m16_28 : decode jdk_52_method_16_code 28 = .ok (.aload 5, 2) := by decide +kernel
theorem own_d_jdk_52_m16_30 : decode jdk_52_method_16_code 30 = .ok (.iload 4, 2) := by decide +kernel
theorem own_pd5 : parseMethodDescriptor "([BI)C" = some ⟨[(.array .byte), .int], some .char⟩ := by decide +kernel
theorem own_d_jdk_52_m16_32 : decode jdk_52_method_16_code 32 = .ok (.invokestatic 71, 3) := by decide +kernel
theorem own_d_jdk_52_m16_35 : decode jdk_52_method_16_code 35 = .ok (.sipush 255, 3) := by decide +kernel
theorem own_d_jdk_52_m16_38 : decode jdk_52_method_16_code 38 = .ok (.if_icmp .gt 16, 3) := by decide +kernel
theorem own_d_jdk_52_m16_54 : decode jdk_52_method_16_code 54 = .ok (.aload 5, 2) := by decide +kernel
theorem own_d_jdk_52_m16_56 : decode jdk_52_method_16_code 56 = .ok (.areturn, 1) := by decide +kernel
theorem own_d_jdk_52_m15_0 : decode jdk_52_method_15_code 0 = .ok (.iload_n 1, 1) := by decide +kernel
theorem own_d_jdk_52_m15_1 : decode jdk_52_method_15_code 1 = .ok (.aload_n 0, 1) := by decide +kernel
theorem own_d_jdk_52_m15_2 : decode jdk_52_method_15_code 2 = .ok (.arraylength, 1) := by decide +kernel
theorem own_d_jdk_52_m15_3 : decode jdk_52_method_15_code 3 = .ok (.isub, 1) := by decide +kernel
theorem own_d_jdk_52_m15_4 : decode jdk_52_method_15_code 4 = .ok (.bipush 31, 2) := by decide +kernel
theorem own_d_jdk_52_m15_6 : decode jdk_52_method_15_code 6 = .ok (.iushr, 1) := by decide +kernel
theorem own_d_jdk_52_m15_7 : decode jdk_52_method_15_code 7 = .ok (.i2b, 1) := by decide +kernel
theorem own_d_jdk_52_m15_8 : decode jdk_52_method_15_code 8 = .ok (.ireturn, 1) := by decide +kernel
theorem own_pn1 : plainName "java/lang/String" = true := by first | (simp [plainName, overriddenIn]; done) | decide +kernel
theorem own_d_jdk_42_m149_0 : decode jdk_42_method_149_code 0 = .ok (.aload_n 0, 1) := by decide +kernel
theorem own_d_jdk_42_m149_1 : decode jdk_42_method_149_code 1 = .ok (.invokespecial 1, 3) := by decide +kernel
theorem own_d_jdk_42_m149_4 : decode jdk_42_method_149_code 4 = .ok (.iload_n 3, 1) := by decide +kernel
theorem own_d_jdk_42_m149_5 : decode jdk_42_method_149_code 5 = .ok (.ifCond .ne 22, 3) := by decide +kernel
theorem own_d_jdk_42_m149_27 : decode jdk_42_method_149_code 27 = .ok (.getstatic 38, 3) := by decide +kernel
theorem own_d_jdk_42_m149_30 : decode jdk_42_method_149_code 30 = .ok (.ifCond .eq 28, 3) := by decide +kernel
theorem own_d_jdk_42_m149_33 : decode jdk_42_method_149_code 33 = .ok (.aload_n 1, 1) := by decide +kernel
theorem own_d_jdk_42_m149_34 : decode jdk_42_method_149_code 34 = .ok (.iload_n 2, 1) := by decide +kernel
theorem own_d_jdk_42_m149_35 : decode jdk_42_method_149_code 35 = .ok (.iload_n 3, 1) := by decide +kernel
theorem own_d_jdk_42_m149_36 : decode jdk_42_method_149_code 36 = .ok (.invokestatic 177, 3) := by decide +kernel
theorem own_d_jdk_42_m149_39 : decode jdk_42_method_149_code 39 = .ok (.astore 5, 2) := by decide +kernel
theorem own_d_jdk_42_m149_41 : decode jdk_42_method_149_code 41 = .ok (.aload_n 0, 1) := by decide +kernel
theorem own_d_jdk_42_m149_42 : decode jdk_42_method_149_code 42 = .ok (.aload 5, 2) := by decide +kernel
theorem own_d_jdk_42_m149_44 : decode jdk_42_method_149_code 44 = .ok (.iload_n 3, 1) := by decide +kernel
theorem own_pd6 : parseMethodDescriptor "([BI)B" = some ⟨[(.array .byte), .int], some .byte⟩ := by decide +kernel
theorem own_d_jdk_42_m149_45 : decode jdk_42_method_149_code 45 = .ok (.invokestatic 47, 3) := by decide +kernel
theorem own_d_jdk_42_m149_48 : decode jdk_42_method_149_code 48 = .ok (.putfield 15, 3) := by decide +kernel
theorem own_d_jdk_42_m149_51 : decode jdk_42_method_149_code 51 = .ok (.aload_n 0, 1) := by decide +kernel
theorem own_d_jdk_42_m149_52 : decode jdk_42_method_149_code 52 = .ok (.aload 5, 2) := by decide +kernel
theorem own_d_jdk_42_m149_54 : decode jdk_42_method_149_code 54 = .ok (.putfield 9, 3) := by decide +kernel
theorem own_d_jdk_42_m149_57 : decode jdk_42_method_149_code 57 = .ok (.return_, 1) := by decide +kernel
theorem own_d_jdk_42_m3_0 : decode jdk_42_method_3_code 0 = .ok (.aload_n 0, 1) := by decide +kernel
theorem own_d_jdk_42_m3_1 : decode jdk_42_method_3_code 1 = .ok (.aload_n 1, 1) := by decide +kernel
theorem own_d_jdk_42_m3_2 : decode jdk_42_method_3_code 2 = .ok (.iconst 0, 1) := by decide +kernel
theorem own_d_jdk_42_m3_3 : decode jdk_42_method_3_code 3 = .ok (.aload_n 1, 1) := by decide +kernel
theorem own_d_jdk_42_m3_4 : decode jdk_42_method_3_code 4 = .ok (.arraylength, 1) := by decide +kernel
theorem own_d_jdk_42_m3_5 : decode jdk_42_method_3_code 5 = .ok (.aconst_null, 1) := by decide +kernel
theorem own_pd7 : parseMethodDescriptor "([CIILjava/lang/Void;)V" = some ⟨[(.array .char), .int, .int, (.object "java/lang/Void")], none⟩ := by decide +kernel
theorem own_d_jdk_42_m3_6 : decode jdk_42_method_3_code 6 = .ok (.invokespecial 27, 3) := by decide +kernel
theorem own_d_jdk_42_m3_9 : decode jdk_42_method_3_code 9 = .ok (.return_, 1) := by decide +kernel
theorem own_pn2 : plainName "jdk/internal/util/Preconditions" = true := by first | (simp [plainName, overriddenIn]; done) | decide +kernel
theorem own_d_jdk_41_m11_0 : decode jdk_41_method_11_code 0 = .ok (.iload_n 0, 1) := by decide +kernel
theorem own_d_jdk_41_m11_1 : decode jdk_41_method_11_code 1 = .ok (.ifCond .lt 8, 3) := by decide +kernel
theorem own_d_jdk_41_m11_4 : decode jdk_41_method_11_code 4 = .ok (.iload_n 0, 1) := by decide +kernel
theorem own_d_jdk_41_m11_5 : decode jdk_41_method_11_code 5 = .ok (.iload_n 1, 1) := by decide +kernel
theorem own_d_jdk_41_m11_6 : decode jdk_41_method_11_code 6 = .ok (.if_icmp .lt 10, 3) := by decide +kernel
theorem own_d_jdk_41_m11_16 : decode jdk_41_method_11_code 16 = .ok (.iload_n 0, 1) := by decide +kernel
theorem own_d_jdk_41_m11_17 : decode jdk_41_method_11_code 17 = .ok (.ireturn, 1) := by decide +kernel
theorem own_d_jdk_42_m155_0 : decode jdk_42_method_155_code 0 = .ok (.iload_n 0, 1) := by decide +kernel
theorem own_d_jdk_42_m155_1 : decode jdk_42_method_155_code 1 = .ok (.iload_n 1, 1) := by decide +kernel
theorem own_d_jdk_42_m155_2 : decode jdk_42_method_155_code 2 = .ok (.getstatic 1053, 3) := by decide +kernel
theorem own_pd8 : parseMethodDescriptor "(IILjava/util/function/BiFunction;)I" = some ⟨[.int, .int, (.object "java/util/function/BiFunction")], some .int⟩ := by decide +kernel
theorem own_d_jdk_42_m155_5 : decode jdk_42_method_155_code 5 = .ok (.invokestatic 1059, 3) := by decide +kernel
theorem own_d_jdk_42_m155_8 : decode jdk_42_method_155_code 8 = .ok (.pop, 1) := by decide +kernel
theorem own_d_jdk_42_m155_9 : decode jdk_42_method_155_code 9 = .ok (.return_, 1) := by decide +kernel
theorem own_pn3 : plainName "java/lang/StringLatin1" = true := by first | (simp [plainName, overriddenIn]; done) | decide +kernel
theorem own_d_jdk_43_m2_0 : decode jdk_43_method_2_code 0 = .ok (.iload_n 1, 1) := by decide +kernel
theorem own_d_jdk_43_m2_1 : decode jdk_43_method_2_code 1 = .ok (.aload_n 0, 1) := by decide +kernel
theorem own_d_jdk_43_m2_2 : decode jdk_43_method_2_code 2 = .ok (.arraylength, 1) := by decide +kernel
theorem own_pd9 : parseMethodDescriptor "(II)V" = some ⟨[.int, .int], none⟩ := by decide +kernel
theorem own_d_jdk_43_m2_3 : decode jdk_43_method_2_code 3 = .ok (.invokestatic 9, 3) := by decide +kernel
theorem own_d_jdk_43_m2_6 : decode jdk_43_method_2_code 6 = .ok (.aload_n 0, 1) := by decide +kernel
theorem own_d_jdk_43_m2_7 : decode jdk_43_method_2_code 7 = .ok (.iload_n 1, 1) := by decide +kernel
theorem own_d_jdk_43_m2_8 : decode jdk_43_method_2_code 8 = .ok (.baload, 1) := by decide +kernel
theorem own_d_jdk_43_m2_9 : decode jdk_43_method_2_code 9 = .ok (.sipush 255, 3) := by decide +kernel
theorem own_d_jdk_43_m2_12 : decode jdk_43_method_2_code 12 = .ok (.iand, 1) := by decide +kernel
theorem own_d_jdk_43_m2_13 : decode jdk_43_method_2_code 13 = .ok (.i2c, 1) := by decide +kernel
theorem own_d_jdk_43_m2_14 : decode jdk_43_method_2_code 14 = .ok (.ireturn, 1) := by decide +kernel
theorem own_d_jdk_52_m6_0 : decode jdk_52_method_6_code 0 = .ok (.aload_n 0, 1) := by decide +kernel
theorem own_d_jdk_52_m6_1 : decode jdk_52_method_6_code 1 = .ok (.arraylength, 1) := by decide +kernel
theorem own_d_jdk_52_m6_2 : decode jdk_52_method_6_code 2 = .ok (.iconst 1, 1) := by decide +kernel
theorem own_d_jdk_52_m6_3 : decode jdk_52_method_6_code 3 = .ok (.ishr, 1) := by decide +kernel
theorem own_d_jdk_52_m6_4 : decode jdk_52_method_6_code 4 = .ok (.ireturn, 1) := by decide +kernel
theorem own_d_jdk_52_m91_0 : decode jdk_52_method_91_code 0 = .ok (.iload_n 0, 1) := by decide +kernel
theorem own_d_jdk_52_m91_1 : decode jdk_52_method_91_code 1 = .ok (.aload_n 1, 1) := by decide +kernel
theorem own_pd10 : parseMethodDescriptor "([B)I" = some ⟨[(.array .byte)], some .int⟩ := by decide +kernel
theorem own_d_jdk_52_m91_2 : decode jdk_52_method_91_code 2 = .ok (.invokestatic 48, 3) := by decide +kernel
theorem own_d_jdk_52_m91_5 : decode jdk_52_method_91_code 5 = .ok (.invokestatic 414, 3) := by decide +kernel
theorem own_d_jdk_52_m91_8 : decode jdk_52_method_91_code 8 = .ok (.return_, 1) := by decide +kernel
theorem own_d_jdk_52_m83_0 : decode jdk_52_method_83_code 0 = .ok (.iload_n 1, 1) := by decide +kernel
theorem own_d_jdk_52_m83_1 : decode jdk_52_method_83_code 1 = .ok (.aload_n 0, 1) := by decide +kernel
theorem own_pd11 : parseMethodDescriptor "(I[B)V" = some ⟨[.int, (.array .byte)], none⟩ := by decide +kernel
theorem own_d_jdk_52_m83_2 : decode jdk_52_method_83_code 2 = .ok (.invokestatic 67, 3) := by decide +kernel
theorem own_d_jdk_52_m83_5 : decode jdk_52_method_83_code 5 = .ok (.aload_n 0, 1) := by decide +kernel
theorem own_d_jdk_52_m83_6 : decode jdk_52_method_83_code 6 = .ok (.iload_n 1, 1) := by decide +kernel
theorem own_d_jdk_52_m83_7 : decode jdk_52_method_83_code 7 = .ok (.invokestatic 71, 3) := by decide +kernel
theorem own_d_jdk_52_m83_10 : decode jdk_52_method_83_code 10 = .ok (.ireturn, 1) := by decide +kernel
theorem own_d_jdk_42_m154_0 : decode jdk_42_method_154_code 0 = .ok (.getstatic 38, 3) := by decide +kernel
theorem own_d_jdk_42_m154_3 : decode jdk_42_method_154_code 3 = .ok (.ifCond .eq 14, 3) := by decide +kernel
theorem own_d_jdk_42_m154_6 : decode jdk_42_method_154_code 6 = .ok (.aload_n 0, 1) := by decide +kernel
theorem own_d_jdk_42_m154_7 : decode jdk_42_method_154_code 7 = .ok (.getfield 15, 3) := by decide +kernel
theorem own_d_jdk_42_m154_10 : decode jdk_42_method_154_code 10 = .ok (.ifCond .ne 7, 3) := by decide +kernel
theorem own_d_jdk_42_m154_13 : decode jdk_42_method_154_code 13 = .ok (.iconst 1, 1) := by decide +kernel
theorem own_d_jdk_42_m154_14 : decode jdk_42_method_154_code 14 = .ok (.goto 4, 3) := by decide +kernel
theorem own_d_jdk_42_m154_18 : decode jdk_42_method_154_code 18 = .ok (.ireturn, 1) := by decide +kernel
theorem own_d_jdk_42_m154_17 : decode jdk_42_method_154_code 17 = .ok (.iconst 0, 1) := by decide +kernel
theorem own_d_jdk_42_m56_0 : decode jdk_42_method_56_code 0 = .ok (.aload_n 0, 1) := by decide +kernel
theorem own_pd12 : parseMethodDescriptor "()Z" = some ⟨[], some .boolean⟩ := by decide +kernel
theorem own_d_jdk_42_m56_1 : decode jdk_42_method_56_code 1 = .ok (.invokevirtual 492, 3) := by decide +kernel
theorem own_d_jdk_42_m56_4 : decode jdk_42_method_56_code 4 = .ok (.ifCond .eq 12, 3) := by decide +kernel
theorem own_d_jdk_42_m56_7 : decode jdk_42_method_56_code 7 = .ok (.aload_n 0, 1) := by decide +kernel
theorem own_d_jdk_42_m56_8 : decode jdk_42_method_56_code 8 = .ok (.getfield 9, 3) := by decide +kernel
theorem own_d_jdk_42_m56_11 : decode jdk_42_method_56_code 11 = .ok (.iload_n 1, 1) := by decide +kernel
theorem own_d_jdk_42_m56_12 : decode jdk_42_method_56_code 12 = .ok (.invokestatic 495, 3) := by decide +kernel
theorem own_d_jdk_42_m56_15 : decode jdk_42_method_56_code 15 = .ok (.ireturn, 1) := by decide +kernel
theorem own_d_jdk_42_m56_16 : decode jdk_42_method_56_code 16 = .ok (.aload_n 0, 1) := by decide +kernel
theorem own_d_jdk_42_m56_17 : decode jdk_42_method_56_code 17 = .ok (.getfield 9, 3) := by decide +kernel
theorem own_d_jdk_42_m56_20 : decode jdk_42_method_56_code 20 = .ok (.iload_n 1, 1) := by decide +kernel
theorem own_d_jdk_42_m56_21 : decode jdk_42_method_56_code 21 = .ok (.invokestatic 498, 3) := by decide +kernel
theorem own_d_jdk_42_m56_24 : decode jdk_42_method_56_code 24 = .ok (.ireturn, 1) := by decide +kernel
theorem own_d_jdk_43_m3_0 : decode jdk_43_method_3_code 0 = .ok (.iload_n 0, 1) := by decide +kernel
theorem own_d_jdk_43_m3_1 : decode jdk_43_method_3_code 1 = .ok (.sipush 255, 3) := by decide +kernel
theorem own_d_jdk_43_m3_4 : decode jdk_43_method_3_code 4 = .ok (.if_icmp .gt 7, 3) := by decide +kernel
theorem own_d_jdk_43_m3_7 : decode jdk_43_method_3_code 7 = .ok (.iconst 1, 1) := by decide +kernel
theorem own_d_jdk_43_m3_8 : decode jdk_43_method_3_code 8 = .ok (.goto 4, 3) := by decide +kernel
theorem own_d_jdk_43_m3_12 : decode jdk_43_method_3_code 12 = .ok (.ireturn, 1) := by decide +kernel
theorem own_d_jdk_43_m46_0 : decode jdk_43_method_46_code 0 = .ok (.iconst 1, 1) := by decide +kernel
theorem own_d_jdk_43_m46_1 : decode jdk_43_method_46_code 1 = .ok (.newarray .byte, 2) := by decide +kernel
theorem own_d_jdk_43_m46_3 : decode jdk_43_method_46_code 3 = .ok (.dup, 1) := by decide +kernel
theorem own_d_jdk_43_m46_4 : decode jdk_43_method_46_code 4 = .ok (.iconst 0, 1) := by decide +kernel
theorem own_d_jdk_43_m46_5 : decode jdk_43_method_46_code 5 = .ok (.iload_n 0, 1) := by decide +kernel
theorem own_d_jdk_43_m46_6 : decode jdk_43_method_46_code 6 = .ok (.i2b, 1) := by decide +kernel
theorem own_d_jdk_43_m46_7 : decode jdk_43_method_46_code 7 = .ok (.bastore, 1) := by decide +kernel
theorem own_d_jdk_43_m46_8 : decode jdk_43_method_46_code 8 = .ok (.areturn, 1) := by decide +kernel
theorem own_d_jdk_42_m151_0 : decode jdk_42_method_151_code 0 = .ok (.aload_n 0, 1) := by decide +kernel
theorem own_d_jdk_42_m151_1 : decode jdk_42_method_151_code 1 = .ok (.invokespecial 1, 3) := by decide +kernel
theorem own_d_jdk_42_m151_4 : decode jdk_42_method_151_code 4 = .ok (.aload_n 0, 1) := by decide +kernel
theorem own_d_jdk_42_m151_5 : decode jdk_42_method_151_code 5 = .ok (.aload_n 1, 1) := by decide +kernel
theorem own_d_jdk_42_m151_6 : decode jdk_42_method_151_code 6 = .ok (.putfield 9, 3) := by decide +kernel
theorem own_d_jdk_42_m151_9 : decode jdk_42_method_151_code 9 = .ok (.aload_n 0, 1) := by decide +kernel
theorem own_d_jdk_42_m151_10 : decode jdk_42_method_151_code 10 = .ok (.iload_n 2, 1) := by decide +kernel
theorem own_d_jdk_42_m151_11 : decode jdk_42_method_151_code 11 = .ok (.putfield 15, 3) := by decide +kernel
theorem own_d_jdk_42_m151_14 : decode jdk_42_method_151_code 14 = .ok (.return_, 1) := by decide +kernel
theorem own_d_jdk_42_m139_0 : decode jdk_42_method_139_code 0 = .ok (.getstatic 38, 3) := by decide +kernel
theorem own_d_jdk_42_m139_3 : decode jdk_42_method_139_code 3 = .ok (.ifCond .eq 23, 3) := by decide +kernel
theorem own_d_jdk_42_m139_6 : decode jdk_42_method_139_code 6 = .ok (.iload_n 0, 1) := by decide +kernel
theorem own_pd13 : parseMethodDescriptor "(C)Z" = some ⟨[.char], some .boolean⟩ := by decide +kernel
theorem own_d_jdk_42_m139_7 : decode jdk_42_method_139_code 7 = .ok (.invokestatic 1015, 3) := by decide +kernel
theorem own_d_jdk_42_m139_10 : decode jdk_42_method_139_code 10 = .ok (.ifCond .eq 16, 3) := by decide +kernel
theorem own_d_jdk_42_m139_13 : decode jdk_42_method_139_code 13 = .ok (.new 10, 3) := by decide +kernel
theorem own_d_jdk_42_m139_16 : decode jdk_42_method_139_code 16 = .ok (.dup, 1) := by decide +kernel
theorem own_d_jdk_42_m139_17 : decode jdk_42_method_139_code 17 = .ok (.iload_n 0, 1) := by decide +kernel
theorem own_pd14 : parseMethodDescriptor "(C)[B" = some ⟨[.char], some (.array .byte)⟩ := by decide +kernel
theorem own_d_jdk_42_m139_18 : decode jdk_42_method_139_code 18 = .ok (.invokestatic 1018, 3) := by decide +kernel
theorem own_d_jdk_42_m139_21 : decode jdk_42_method_139_code 21 = .ok (.iconst 0, 1) := by decide +kernel
theorem own_pd15 : parseMethodDescriptor "([BB)V" = some ⟨[(.array .byte), .byte], none⟩ := by decide +kernel
theorem own_d_jdk_42_m139_22 : decode jdk_42_method_139_code 22 = .ok (.invokespecial 209, 3) := by decide +kernel
theorem own_d_jdk_42_m139_25 : decode jdk_42_method_139_code 25 = .ok (.areturn, 1) := by decide +kernel
theorem own_pn4 : plainName "com/example/turnwise/turnwise/input/IdsCheckPinLaw" = true := by first | (simp [plainName, overriddenIn]; done) | decide +kernel
theorem own_d_m2_0 : decode method_2_code 0 = .ok (.iload_n 0, 1) := by decide +kernel
theorem own_d_m2_1 : decode method_2_code 1 = .ok (.bipush 31, 2) := by decide +kernel
theorem own_d_m2_3 : decode method_2_code 3 = .ok (.if_icmp .le 16, 3) := by decide +kernel
theorem own_d_m2_6 : decode method_2_code 6 = .ok (.iload_n 0, 1) := by decide +kernel
theorem own_d_m2_7 : decode method_2_code 7 = .ok (.bipush 127, 2) := by decide +kernel
theorem own_d_m2_9 : decode method_2_code 9 = .ok (.if_icmp .lt 14, 3) := by decide +kernel
theorem own_d_m2_23 : decode method_2_code 23 = .ok (.iconst 0, 1) := by decide +kernel
theorem own_d_m2_24 : decode method_2_code 24 = .ok (.ireturn, 1) := by decide +kernel
theorem own_d_m2_12 : decode method_2_code 12 = .ok (.iload_n 0, 1) := by decide +kernel
theorem own_d_m2_13 : decode method_2_code 13 = .ok (.sipush 159, 3) := by decide +kernel
theorem own_d_m2_16 : decode method_2_code 16 = .ok (.if_icmp .gt 7, 3) := by decide +kernel
theorem own_d_m2_19 : decode method_2_code 19 = .ok (.iconst 1, 1) := by decide +kernel
theorem own_d_m2_20 : decode method_2_code 20 = .ok (.goto 4, 3) := by decide +kernel
theorem own_pn5 : plainName "java/lang/Character" = true := by first | (simp [plainName, overriddenIn]; done) | decide +kernel
theorem own_d_jdk_89_m89_0 : decode jdk_89_method_89_code 0 = .ok (.iload_n 0, 1) := by decide +kernel
theorem own_d_jdk_89_m89_1 : decode jdk_89_method_89_code 1 = .ok (.sipush 159, 3) := by decide +kernel
theorem own_d_jdk_89_m89_4 : decode jdk_89_method_89_code 4 = .ok (.if_icmp .gt 19, 3) := by decide +kernel
theorem own_d_jdk_89_m89_23 : decode jdk_89_method_89_code 23 = .ok (.iconst 0, 1) := by decide +kernel
theorem own_d_jdk_89_m89_24 : decode jdk_89_method_89_code 24 = .ok (.ireturn, 1) := by decide +kernel
theorem own_d_jdk_89_m89_7 : decode jdk_89_method_89_code 7 = .ok (.iload_n 0, 1) := by decide +kernel
theorem own_d_jdk_89_m89_8 : decode jdk_89_method_89_code 8 = .ok (.bipush 127, 2) := by decide +kernel
theorem own_d_jdk_89_m89_10 : decode jdk_89_method_89_code 10 = .ok (.if_icmp .ge 9, 3) := by decide +kernel
theorem own_d_jdk_89_m89_13 : decode jdk_89_method_89_code 13 = .ok (.iload_n 0, 1) := by decide +kernel
theorem own_d_jdk_89_m89_14 : decode jdk_89_method_89_code 14 = .ok (.iconst 5, 1) := by decide +kernel
theorem own_d_jdk_89_m89_15 : decode jdk_89_method_89_code 15 = .ok (.iushr, 1) := by decide +kernel
theorem own_d_jdk_89_m89_16 : decode jdk_89_method_89_code 16 = .ok (.ifCond .ne 7, 3) := by decide +kernel
theorem own_d_jdk_89_m89_19 : decode jdk_89_method_89_code 19 = .ok (.iconst 1, 1) := by decide +kernel
theorem own_d_jdk_89_m89_20 : decode jdk_89_method_89_code 20 = .ok (.goto 4, 3) := by decide +kernel
theorem own_d_jdk_89_m88_0 : decode jdk_89_method_88_code 0 = .ok (.iload_n 0, 1) := by decide +kernel
theorem own_pd16 : parseMethodDescriptor "(I)Z" = some ⟨[.int], some .boolean⟩ := by decide +kernel
theorem own_d_jdk_89_m88_1 : decode jdk_89_method_88_code 1 = .ok (.invokestatic 266, 3) := by decide +kernel
theorem own_d_jdk_89_m88_4 : decode jdk_89_method_88_code 4 = .ok (.ireturn, 1) := by decide +kernel
theorem own_pn6 : plainName "com/example/turnwise/turnwise/input/Ids" = true := by first | (simp [plainName, overriddenIn]; done) | decide +kernel
theorem own_d_prog_28_m3_0 : decode prog_28_method_3_code 0 = .ok (.aload_n 0, 1) := by decide +kernel
theorem own_d_prog_28_m3_1 : decode prog_28_method_3_code 1 = .ok (.invokevirtual 17, 3) := by decide +kernel
theorem own_d_prog_28_m3_4 : decode prog_28_method_3_code 4 = .ok (.ifCond .ne 7, 3) := by decide +kernel
theorem own_d_prog_28_m3_7 : decode prog_28_method_3_code 7 = .ok (.iconst 1, 1) := by decide +kernel
theorem own_d_prog_28_m3_8 : decode prog_28_method_3_code 8 = .ok (.goto 4, 3) := by decide +kernel
theorem own_d_prog_28_m3_12 : decode prog_28_method_3_code 12 = .ok (.istore_n 1, 1) := by decide +kernel
theorem own_d_prog_28_m3_13 : decode prog_28_method_3_code 13 = .ok (.iconst 0, 1) := by decide +kernel
theorem own_d_prog_28_m3_14 : decode prog_28_method_3_code 14 = .ok (.istore_n 2, 1) := by decide +kernel
theorem own_d_prog_28_m3_15 : decode prog_28_method_3_code 15 = .ok (.iload_n 1, 1) := by decide +kernel
theorem own_d_prog_28_m3_16 : decode prog_28_method_3_code 16 = .ok (.ifCond .eq 34, 3) := by decide +kernel
theorem own_d_prog_28_m3_19 : decode prog_28_method_3_code 19 = .ok (.iload_n 2, 1) := by decide +kernel
theorem own_d_prog_28_m3_20 : decode prog_28_method_3_code 20 = .ok (.aload_n 0, 1) := by decide +kernel
theorem own_pd17 : parseMethodDescriptor "()I" = some ⟨[], some .int⟩ := by decide +kernel
theorem own_d_prog_28_m3_21 : decode prog_28_method_3_code 21 = .ok (.invokevirtual 23, 3) := by decide +kernel
theorem own_d_prog_28_m3_24 : decode prog_28_method_3_code 24 = .ok (.if_icmp .ge 26, 3) := by decide +kernel
theorem own_d_prog_28_m3_27 : decode prog_28_method_3_code 27 = .ok (.aload_n 0, 1) := by decide +kernel
theorem own_d_prog_28_m3_28 : decode prog_28_method_3_code 28 = .ok (.iload_n 2, 1) := by decide +kernel
theorem own_pd18 : parseMethodDescriptor "(I)C" = some ⟨[.int], some .char⟩ := by decide +kernel
theorem own_d_prog_28_m3_29 : decode prog_28_method_3_code 29 = .ok (.invokevirtual 27, 3) := by decide +kernel
theorem own_d_prog_28_m3_32 : decode prog_28_method_3_code 32 = .ok (.invokestatic 31, 3) := by decide +kernel
theorem own_d_prog_28_m3_35 : decode prog_28_method_3_code 35 = .ok (.ifCond .ne 7, 3) := by decide +kernel
theorem own_d_prog_28_m3_42 : decode prog_28_method_3_code 42 = .ok (.iconst 0, 1) := by decide +kernel
theorem own_d_prog_28_m3_43 : decode prog_28_method_3_code 43 = .ok (.istore_n 1, 1) := by decide +kernel
theorem own_d_prog_28_m3_44 : decode prog_28_method_3_code 44 = .ok (.iinc 2 1, 3) := by decide +kernel
theorem own_d_prog_28_m3_47 : decode prog_28_method_3_code 47 = .ok (.goto (-32), 3) := by decide +kernel
theorem own_d_prog_28_m3_50 : decode prog_28_method_3_code 50 = .ok (.iload_n 1, 1) := by decide +kernel
theorem own_d_prog_28_m3_51 : decode prog_28_method_3_code 51 = .ok (.ireturn, 1) := by decide +kernel
theorem own_d_prog_28_m3_38 : decode prog_28_method_3_code 38 = .ok (.iconst 1, 1) := by decide +kernel
theorem own_d_prog_28_m3_39 : decode prog_28_method_3_code 39 = .ok (.goto 4, 3) := by decide +kernel
theorem own_d_prog_28_m2_0 : decode prog_28_method_2_code 0 = .ok (.aload_n 0, 1) := by decide +kernel
theorem own_pd19 : parseMethodDescriptor "(Ljava/lang/String;)Z" = some ⟨[(.object "java/lang/String")], some .boolean⟩ := by decide +kernel
theorem own_d_prog_28_m2_1 : decode prog_28_method_2_code 1 = .ok (.invokestatic 7, 3) := by decide +kernel
theorem own_d_prog_28_m2_4 : decode prog_28_method_2_code 4 = .ok (.ifCond .ne 8, 3) := by decide +kernel
theorem own_d_prog_28_m2_12 : decode prog_28_method_2_code 12 = .ok (.aload_n 0, 1) := by decide +kernel
theorem own_d_prog_28_m2_13 : decode prog_28_method_2_code 13 = .ok (.areturn, 1) := by decide +kernel
theorem own_pd20 : parseMethodDescriptor "([C)V" = some ⟨[(.array .char)], none⟩ := by decide +kernel
theorem own_pd21 : parseMethodDescriptor "(C)Ljava/lang/String;" = some ⟨[.char], some (.object "java/lang/String")⟩ := by decide +kernel
theorem own_pd22 : parseMethodDescriptor "(Ljava/lang/String;Ljava/lang/String;)Ljava/lang/String;" = some ⟨[(.object "java/lang/String"), (.object "java/lang/String")], some (.object "java/lang/String")⟩ := by decide +kernel
def own_Qnbl (Z : State) (nn : Nat) (h0 : Heap) (n0 : Nat) (v : Option Value) (h : Heap) (L : List Loc) : Prop := (v = some (.int (Int32.ofNat (2 * nn))) ∧ Fr n0 L ∧ Keep h0 h [])
theorem own_ef_nbl (m : MethodId) (nn : Nat)  : entryFrame m #[(.int (Int32.ofNat nn))] 1 = mkF m 0 #[.val (.int (Int32.ofNat nn))] [] := by first | (simp [entryFrame, mkF, argsToLocals, Value.category]; done) | rfl
set_option maxRecDepth 65536 in
set_option maxHeartbeats 40000000 in
theorem own_rmnbl (l : Launch) (Z : State) (a0 : Array Value) (hw : ∀ d ∈ tables_1, d.before a0 Z = true) (hst : own_St Z) (ws : List Jvm.Cond) (nn : Nat) (h0 : Heap) (n0 : Nat) (X00 : Old Z n0 h0) (hn : nn ≤ 3) :
    MetFree l (⟨"java/lang/StringUTF16", "newBytesLength", "(I)I"⟩ : MethodName) (head1 (Jvm.Cond.code (⟨"java/lang/StringUTF16", "newBytesLength", "(I)I"⟩ : MethodName) jdk_52_method_3_code 1 (Option.some Jvm.ClassFile.FieldType.int) :: ws) ({ frames := 0, cells := 0, slots := 0, locals := 0 } : Room)) (fun a U => a = #[(.int (Int32.ofNat nn))] ∧ Z.Warmed39 U.vm ∧ U.heap = h0) (fun _ _ _ _ _ => True) (fun _ U o U' => ∃ v L, o = .returned v ∧ own_Qnbl Z nn h0 n0 v U'.heap L ∧ FrameEnd U o U' L ({ frames := 0, cells := 0, slots := 0, locals := 0 } : Room).cells ({ frames := 0, cells := 0, slots := 0, locals := 0 } : Room).slots) := by
  refine MetFree.of_bodySF (plainFor_of_name own_pn0) hisR ?_
  intro p e s m args below meth c s₁ Bd hml0 hP hK
  obtain ⟨rfl, hZ, hh⟩ := hP
  have hx := Bd.exec
  have hby := Bd.bytes
  have hret := Bd.returns
  have hlk : meth.locks = false := BodyLoose.notSynchronized Bd
  have hml : c.maxLocals = 1 := hml0
  have hown : s.vm.findClass "java/lang/StringUTF16" = some m.cls := findClass_of_methodNamed Bd.named
  have hnm := (name_of_methodNamed Bd.named Bd.method).1
  have X0 : Stand p l e ({ frames := 0, cells := 0, slots := 0, locals := 0 } : Room) s m #[(.int (Int32.ofNat nn))] below meth c s₁ [] 0 0 := Stand.of_body Bd
  have e0 : s₁.heap = h0 := by rw [← hh, Bd.state]; rfl
  have N0 := Fr.nil n0
  have KK0 : Keep h0 h0 [] := Keep.refl h0 _
  refine own_start (own_Qnbl Z nn h0 n0) ?_
  refine own_to (V := s₁.setTop (mkF m 0 #[.val (.int (Int32.ofNat nn))] [])) ?_ (fun t k => castTop (own_ef_nbl m nn ) k)
  obtain ⟨⟨G1, O2, P5⟩, ⟨G3, O4, rG3⟩, ⟨uO1, uO2, uO3⟩, -⟩ := id hst
  refine own_to (V := s₁.setTop (mkF m 13 #[.val (.int (Int32.ofNat nn))] [(.int (Int32.ofNat nn))])) ?_ fun t k => (by
    refine XS.iloadN X0.here hx rfl (hb hby own_d_jdk_52_m3_0) rfl ?_
    refine XS.ifYes X0.here hx rfl (pc0 := 1) (pc' := 12) rfl (hb hby own_d_jdk_52_m3_1) rfl ((if0 _ _).trans (flt (own_neg32 (by omega) : ¬ ((Int32.ofNat nn) < (0 : Int32)))).2.1) (by decide) (by decide) ?_
    refine XS.iloadN X0.here hx rfl (hb hby own_d_jdk_52_m3_12) rfl ?_
    exact k)
  refine own_to (V := s₁.setTop (mkF m 15 #[.val (.int (Int32.ofNat nn))] [(.int (1073741823 : Int32)), (.int (Int32.ofNat nn))])) ?_ (fun t k => X0.ldcInt hx hown (mvT hZ (hw _ (List.mem_of_getElem? (i := 38) rfl))) (g := (mkF m 13 #[.val (.int (Int32.ofNat nn))] [(.int (Int32.ofNat nn))])) rfl (hb hby own_d_jdk_52_m3_13) t k)
  refine own_to (V := s₁.setTop (mkF m 58 #[.val (.int (Int32.ofNat nn))] [(.int ((Int32.ofNat nn) <<< ((1 : Int32) &&& 31)))])) ?_ fun t k => (by
    refine XS.icmpYes X0.here hx rfl (pc0 := 15) (pc' := 55) rfl (hb hby own_d_jdk_52_m3_15) rfl (tlt (own_lt32 (b := 1073741823) (by decide) (by omega) : (Int32.ofNat nn) < (1073741823 : Int32))).1 (by decide) (by decide) ?_
    refine XS.iloadN X0.here hx rfl (hb hby own_d_jdk_52_m3_55) rfl ?_
    refine XS.iconst X0.here hx rfl (hb hby own_d_jdk_52_m3_56) ?_
    refine XS.ishl X0.here hx rfl (hb hby own_d_jdk_52_m3_57) rfl ?_
    exact k)
  exact own_retI X0 hx hret hlk (hb hby own_d_jdk_52_m3_58) (by rw [e0]; exact (⟨(by rw [own_shl32]), N0, KK0⟩)) (by decide) (by decide)
def own_Qnbf (Z : State) (nn : Nat) (h0 : Heap) (n0 : Nat) (v : Option Value) (h : Heap) (L : List Loc) : Prop := (∃ (od : Addr) (kd : ClassId), v = some (.ref od) ∧ Fr n0 L ∧ Keep h0 h [] ∧ (h0.size ≤ od) ∧ (Arv Z h od kd .byte (Int32.ofNat (2 * nn)) (List.replicate (2 * nn) (.int (0 : Int32))) (.int (0 : Int32))))
theorem own_ef_nbf (m : MethodId) (nn : Nat)  : entryFrame m #[(.int (Int32.ofNat nn))] 1 = mkF m 0 #[.val (.int (Int32.ofNat nn))] [] := by first | (simp [entryFrame, mkF, argsToLocals, Value.category]; done) | rfl
set_option maxRecDepth 65536 in
set_option maxHeartbeats 40000000 in
theorem own_rmnbf (l : Launch) (Z : State) (a0 : Array Value) (hw : ∀ d ∈ tables_1, d.before a0 Z = true) (hst : own_St Z) (ws : List Jvm.Cond) (nn : Nat) (h0 : Heap) (n0 : Nat) (X00 : Old Z n0 h0) (hn : nn ≤ 3) :
    MetFree l (⟨"java/lang/StringUTF16", "newBytesFor", "(I)[B"⟩ : MethodName) (head1 (Jvm.Cond.code (⟨"java/lang/StringUTF16", "newBytesFor", "(I)[B"⟩ : MethodName) jdk_52_method_2_code 1 (Option.some (Jvm.ClassFile.FieldType.array Jvm.ClassFile.FieldType.byte)) :: ws) ({ frames := 1, cells := 1, slots := 6, locals := 12 } : Room)) (fun a U => a = #[(.int (Int32.ofNat nn))] ∧ Z.Warmed39 U.vm ∧ U.heap = h0) (fun _ _ _ _ _ => True) (fun _ U o U' => ∃ v L, o = .returned v ∧ own_Qnbf Z nn h0 n0 v U'.heap L ∧ FrameEnd U o U' L ({ frames := 1, cells := 1, slots := 6, locals := 12 } : Room).cells ({ frames := 1, cells := 1, slots := 6, locals := 12 } : Room).slots) := by
  refine MetFree.of_bodySF (plainFor_of_name own_pn0) hisR ?_
  intro p e s m args below meth c s₁ Bd hml0 hP hK
  obtain ⟨rfl, hZ, hh⟩ := hP
  have hx := Bd.exec
  have hby := Bd.bytes
  have hret := Bd.returns
  have hlk : meth.locks = false := BodyLoose.notSynchronized Bd
  have hml : c.maxLocals = 1 := hml0
  have hown : s.vm.findClass "java/lang/StringUTF16" = some m.cls := findClass_of_methodNamed Bd.named
  have hnm := (name_of_methodNamed Bd.named Bd.method).1
  have X0 : Stand p l e ({ frames := 1, cells := 1, slots := 6, locals := 12 } : Room) s m #[(.int (Int32.ofNat nn))] below meth c s₁ [] 0 0 := Stand.of_body Bd
  have e0 : s₁.heap = h0 := by rw [← hh, Bd.state]; rfl
  have N0 := Fr.nil n0
  have KK0 : Keep h0 h0 [] := Keep.refl h0 _
  refine own_start (own_Qnbf Z nn h0 n0) ?_
  refine own_to (V := s₁.setTop (mkF m 0 #[.val (.int (Int32.ofNat nn))] [])) ?_ (fun t k => castTop (own_ef_nbf m nn ) k)
  obtain ⟨⟨G1, O2, P5⟩, ⟨G3, O4, rG3⟩, ⟨uO1, uO2, uO3⟩, -⟩ := id hst
  refine own_to (V := s₁.setTop (mkF m 1 #[.val (.int (Int32.ofNat nn))] [(.int (Int32.ofNat nn))])) ?_ fun t k => (by
    refine XS.iloadN X0.here hx rfl (hb hby own_d_jdk_52_m2_0) rfl ?_
    exact k)
  obtain ⟨_, _, ⟨T101, L101, k101, n101⟩, -, X101, ⟨Lc101, hQ101, l101, y101, z101⟩, st101⟩ := Jvm.LawKit.callS X0 hx (y := (⟨"java/lang/StringUTF16", "newBytesLength", "(I)I"⟩ : MethodName)) hown (mvT hZ (hw _ (List.mem_of_getElem? (i := 35) rfl))) (mvT hZ (hw _ (List.mem_of_getElem? (i := 36) rfl))) (mvT hZ (hw _ (List.mem_of_getElem? (i := 23) rfl))) (mvT hZ (hw _ (List.mem_of_getElem? (i := 37) rfl))) (by decide) (backOf (W := 0) (own_rmnbl l Z a0 hw hst [] nn h0 n0 X00 hn) hZ (hw _ (List.mem_of_getElem? (i := 37) rfl)) (hw _ (List.mem_of_getElem? (i := 23) rfl)) (by decide) (by decide)) (g := (mkF m 1 #[.val (.int (Int32.ofNat nn))] [(.int (Int32.ofNat nn))])) rfl (by rw [hml]; rfl) (argsL := [(.int (Int32.ofNat nn))]) (rest := []) (lenOf own_pd0 rfl) rfl (by show 2 * 0 + _ ≤ _; exact Nat.le_of_eq rfl) (hb hby own_d_jdk_52_m2_1) (fun _ _ => ⟨rfl, e0, (by decide : 0 + 0 ≤ _), (by decide : 0 + 0 ≤ _)⟩)
  dsimp only [Pt.U, Pt.locs, Pt.cells, Pt.slots] at X101 l101 y101 z101 st101 hQ101
  subst l101 y101 z101
  obtain ⟨hv101, N101q, K101⟩ := hQ101
  subst hv101
  obtain ⟨h101, e101⟩ : ∃ z, T101.heap = z := ⟨_, rfl⟩
  rw [e101] at K101
  have Xo101 : Old Z n0 h101 := X00.keep K101 all0
  have KK101 : Keep h0 h101 [] := KK0.trans K101 all0
  have N101 := Fr.app N0 N101q
  refine own_to (V := T101.setTop (mkF m 4 #[.val (.int (Int32.ofNat nn))] [(.int (Int32.ofNat (2 * nn)))])) ?_ st101
  obtain ⟨T102, h102, k102, X102, e102, E102, A102, st102⟩ := newP X101 hx hZ (hw _ (List.mem_of_getElem? (i := 25) rfl)) e101 (g := (mkF m 4 #[.val (.int (Int32.ofNat nn))] [(.int (Int32.ofNat (2 * nn)))])) rfl (hb hby own_d_jdk_52_m2_4) rfl (own_neg32 (by omega)) (cap := 6) (by rw [own_n32 (by omega)]; omega) (by decide) (by decide) (by decide)
  obtain ⟨b102, g102⟩ : ∃ z, z = h101.size := ⟨_, rfl⟩
  rw [← g102] at A102 st102
  have Xo102 : Old Z n0 h102 := Xo101.ext E102
  have KK102 : Keep h0 h102 [] := KK101.ext E102
  have ge_b102 : n0 ≤ b102 := Nat.le_trans (own_ole Xo101) (Nat.le_of_eq g102.symm)
  have sz_b102 : h0.size ≤ b102 := Nat.le_trans KK101.1 (Nat.le_of_eq g102.symm)
  have V102 : Arv Z h102 b102 k102 .byte (Int32.ofNat (2 * nn)) ([] : List Value) (.int (0 : Int32)) := Arv.new A102 (own_neg32 (by omega))
  refine own_to (V := T102.setTop (mkF m 6 #[.val (.int (Int32.ofNat nn))] [(.ref b102)])) ?_ st102
  exact own_retR X102 hx hret (by decide) rfl hlk (hb hby own_d_jdk_52_m2_6) (by rw [e102]; exact (⟨b102, k102, rfl, N101, KK102, sz_b102, ((V102).pad (pad_rep [] (.int (0 : Int32)) (2 * nn)))⟩)) (by decide) (by decide)
def own_Qput (Z : State) (od : Addr) (kd : ClassId) (nn : Nat) (wc : Int32) (zn : Nat) (pA : List Value) (pB : List Value) (z1 : Value) (z2 : Value) (h0 : Heap) (n0 : Nat) (v : Option Value) (h : Heap) (L : List Loc) : Prop := (v = none ∧ Fr n0 L ∧ Keep h0 h [od] ∧ (Arv Z h od kd .byte (Int32.ofNat zn) (pA ++ .int (StrChars.lo8 wc) :: .int (StrChars.hi8 wc) :: pB) (.int (0 : Int32))))
theorem own_ef_put (m : MethodId) (od : Addr) (nn : Nat) (wc : Int32)  : entryFrame m #[(.ref od), (.int (Int32.ofNat nn)), (.int wc)] 3 = mkF m 0 #[.val (.ref od), .val (.int (Int32.ofNat nn)), .val (.int wc)] [] := by first | (simp [entryFrame, mkF, argsToLocals, Value.category]; done) | rfl
set_option maxRecDepth 65536 in
set_option maxHeartbeats 40000000 in
theorem own_rmput (l : Launch) (Z : State) (a0 : Array Value) (hw : ∀ d ∈ tables_1, d.before a0 Z = true) (hst : own_St Z) (ws : List Jvm.Cond) (od : Addr) (kd : ClassId) (nn : Nat) (wc : Int32) (zn : Nat) (pA : List Value) (pB : List Value) (z1 : Value) (z2 : Value) (h0 : Heap) (n0 : Nat) (X00 : Old Z n0 h0) (hV : Arv Z h0 od kd .byte (Int32.ofNat zn) (pA ++ z1 :: z2 :: pB) (.int (0 : Int32))) (hA : pA.length = 2 * nn) (hz : 2 * nn + 1 < zn) (hz2 : zn ≤ 8000) (hG : n0 ≤ od) :
    MetFree l (⟨"java/lang/StringUTF16", "putChar", "([BII)V"⟩ : MethodName) (head1 (Jvm.Cond.code (⟨"java/lang/StringUTF16", "putChar", "([BII)V"⟩ : MethodName) jdk_52_method_4_code 3 (Option.none : Option Jvm.ClassFile.FieldType) :: ws) ({ frames := 0, cells := 0, slots := 0, locals := 0 } : Room)) (fun a U => a = #[(.ref od), (.int (Int32.ofNat nn)), (.int wc)] ∧ Z.Warmed39 U.vm ∧ U.heap = h0) (fun _ _ _ _ _ => True) (fun _ U o U' => ∃ v L, o = .returned v ∧ own_Qput Z od kd nn wc zn pA pB z1 z2 h0 n0 v U'.heap L ∧ FrameEnd U o U' L ({ frames := 0, cells := 0, slots := 0, locals := 0 } : Room).cells ({ frames := 0, cells := 0, slots := 0, locals := 0 } : Room).slots) := by
  refine MetFree.of_bodySF (plainFor_of_name own_pn0) hisR ?_
  intro p e s m args below meth c s₁ Bd hml0 hP hK
  obtain ⟨rfl, hZ, hh⟩ := hP
  have hx := Bd.exec
  have hby := Bd.bytes
  have hret := Bd.returns
  have hlk : meth.locks = false := BodyLoose.notSynchronized Bd
  have hml : c.maxLocals = 3 := hml0
  have hown : s.vm.findClass "java/lang/StringUTF16" = some m.cls := findClass_of_methodNamed Bd.named
  have hnm := (name_of_methodNamed Bd.named Bd.method).1
  have X0 : Stand p l e ({ frames := 0, cells := 0, slots := 0, locals := 0 } : Room) s m #[(.ref od), (.int (Int32.ofNat nn)), (.int wc)] below meth c s₁ [] 0 0 := Stand.of_body Bd
  have e0 : s₁.heap = h0 := by rw [← hh, Bd.state]; rfl
  have N0 := Fr.nil n0
  have KK0 : Keep h0 h0 [od] := Keep.refl h0 _
  refine own_start (own_Qput Z od kd nn wc zn pA pB z1 z2 h0 n0) ?_
  refine own_to (V := s₁.setTop (mkF m 0 #[.val (.ref od), .val (.int (Int32.ofNat nn)), .val (.int wc)] [])) ?_ (fun t k => castTop (own_ef_put m od nn wc ) k)
  obtain ⟨⟨G1, O2, P5⟩, ⟨G3, O4, rG3⟩, ⟨uO1, uO2, uO3⟩, -⟩ := id hst
  obtain ⟨T101, X101, e101, st101⟩ := getS2 X0 hx hZ hown (host := "") (Or.inl (hw _ (List.mem_of_getElem? (i := 42) rfl))) Via.refl e0 (uO1.ext X00.2) (g := (mkF m 0 #[.val (.ref od), .val (.int (Int32.ofNat nn)), .val (.int wc)] [])) rfl (hb hby own_d_jdk_52_m4_0)
  refine own_to (V := T101.setTop (mkF m 3 #[.val (.ref od), .val (.int (Int32.ofNat nn)), .val (.int wc)] [(.int (1 : Int32))])) ?_ st101
  obtain ⟨x102, hx102⟩ : ∃ z : Int32, z = ((Int32.ofNat nn) <<< ((1 : Int32) &&& 31)) := ⟨_, rfl⟩
  refine own_to (V := T101.setTop (mkF m 32 #[.val (.ref od), .val (.int x102), .val (.int wc)] [])) ?_ fun t k => (by
    first | rw [hx102] at k | skip
    refine XS.ifYes X101.here hx rfl (pc0 := 3) (pc' := 28) rfl (hb hby own_d_jdk_52_m4_3) rfl ((if0 _ _).trans (feq ((by decide) : ¬ ((1 : Int32) = (0 : Int32)))).2) (by decide) (by decide) ?_
    refine XS.iloadN X101.here hx rfl (hb hby own_d_jdk_52_m4_28) rfl ?_
    refine XS.iconst X101.here hx rfl (hb hby own_d_jdk_52_m4_29) ?_
    refine XS.ishl X101.here hx rfl (hb hby own_d_jdk_52_m4_30) rfl ?_
    refine XS.istoreN X101.here hx rfl (hb hby own_d_jdk_52_m4_31) rfl (l' := #[.val (.ref od), .val (.int ((Int32.ofNat nn) <<< ((1 : Int32) &&& 31))), .val (.int wc)]) rfl ?_
    exact k)
  have hi1 : x102 = Int32.ofNat (2 * nn) := by rw [hx102, own_shl32]
  obtain ⟨x103, hx103⟩ : ∃ z : Int32, z = (x102 + (1 : Int32)) := ⟨_, rfl⟩
  refine own_to (V := T101.setTop (mkF m 37 #[.val (.ref od), .val (.int x103), .val (.int wc)] [(.int x102), (.ref od)])) ?_ fun t k => (by
    first | rw [hx103] at k | skip
    refine XS.aloadN X101.here hx rfl (hb hby own_d_jdk_52_m4_32) rfl rfl ?_
    refine XS.iloadN X101.here hx rfl (hb hby own_d_jdk_52_m4_33) rfl ?_
    refine XS.iinc X101.here hx rfl (hb hby own_d_jdk_52_m4_34) rfl (l' := #[.val (.ref od), .val (.int (x102 + (1 : Int32))), .val (.int wc)]) rfl ?_
    exact k)
  refine own_to (V := T101.setTop (mkF m 38 #[.val (.ref od), .val (.int x103), .val (.int wc)] [(.int wc), (.int x102), (.ref od)])) ?_ fun t k => (by
    refine XS.iloadN X101.here hx rfl (hb hby own_d_jdk_52_m4_37) rfl ?_
    exact k)
  obtain ⟨T104, X104, e104, st104⟩ := getS2 X101 hx hZ hown (host := "") (Or.inl (hw _ (List.mem_of_getElem? (i := 43) rfl))) Via.refl e101 (uO2.ext X00.2) (g := (mkF m 38 #[.val (.ref od), .val (.int x103), .val (.int wc)] [(.int wc), (.int x102), (.ref od)])) rfl (hb hby own_d_jdk_52_m4_38)
  refine own_to (V := T104.setTop (mkF m 41 #[.val (.ref od), .val (.int x103), .val (.int wc)] [(.int (0 : Int32)), (.int wc), (.int x102), (.ref od)])) ?_ st104
  refine own_to (V := T104.setTop (mkF m 43 #[.val (.ref od), .val (.int x103), .val (.int wc)] [(.int ((wc >>> ((0 : Int32) &&& 31)).toInt8.toInt32)), (.int x102), (.ref od)])) ?_ fun t k => (by
    refine XS.ishr X104.here hx rfl (hb hby own_d_jdk_52_m4_41) rfl ?_
    refine XS.i2b X104.here hx rfl (hb hby own_d_jdk_52_m4_42) rfl ?_
    exact k)
  obtain ⟨cl105, Ar105, q105, S105, M105, H105, G105⟩ := id hV
  obtain ⟨T105, h105, X105, e105, W105, st105⟩ := stB X104 hx hZ e104 Ar105 (j := x102) (own_in S105 (by rw [hi1]; exact own_neg32 (by omega)) (by rw [hi1, own_n32 (by omega)]) (by rw [own_n32 (by omega)]; omega)) (g := (mkF m 43 #[.val (.ref od), .val (.int x103), .val (.int wc)] [(.int ((wc >>> ((0 : Int32) &&& 31)).toInt8.toInt32)), (.int x102), (.ref od)])) rfl rfl (hb hby own_d_jdk_52_m4_43)
  rw [own_sh0, own_narB, show (wc.toInt8.toInt32) = StrChars.lo8 wc from rfl] at W105
  have Xo105 : Old Z n0 h105 := X00.wr W105 hG
  have KK105 : Keep h0 h105 [od] := KK0.wr W105 (Or.inl (List.mem_of_getElem? (i := 0) rfl))
  have V105 : Arv Z h105 od kd .byte (Int32.ofNat zn) (pA ++ .int (StrChars.lo8 wc) :: z2 :: pB) (.int (0 : Int32)) := by
    have q := Arv.set (v := (.int (StrChars.lo8 wc))) Ar105 q105 S105 M105 H105 G105 (StrChars.fits_lo8 _) W105 (2 * nn) (by rw [hi1, own_n32 (by omega)]) (by simp; omega)
    rwa [← hA, own_setApp] at q
  have N105 := Fr.snoc X105 N0 hG
  refine own_to (V := T105.setTop (mkF m 44 #[.val (.ref od), .val (.int x103), .val (.int wc)] [])) ?_ st105
  refine own_to (V := T105.setTop (mkF m 47 #[.val (.ref od), .val (.int x103), .val (.int wc)] [(.int wc), (.int x103), (.ref od)])) ?_ fun t k => (by
    refine XS.aloadN X105.here hx rfl (hb hby own_d_jdk_52_m4_44) rfl rfl ?_
    refine XS.iloadN X105.here hx rfl (hb hby own_d_jdk_52_m4_45) rfl ?_
    refine XS.iloadN X105.here hx rfl (hb hby own_d_jdk_52_m4_46) rfl ?_
    exact k)
  obtain ⟨T106, X106, e106, st106⟩ := getS2 X105 hx hZ hown (host := "") (Or.inl (hw _ (List.mem_of_getElem? (i := 44) rfl))) Via.refl e105 (uO3.ext Xo105.2) (g := (mkF m 47 #[.val (.ref od), .val (.int x103), .val (.int wc)] [(.int wc), (.int x103), (.ref od)])) rfl (hb hby own_d_jdk_52_m4_47)
  refine own_to (V := T106.setTop (mkF m 50 #[.val (.ref od), .val (.int x103), .val (.int wc)] [(.int (8 : Int32)), (.int wc), (.int x103), (.ref od)])) ?_ st106
  refine own_to (V := T106.setTop (mkF m 52 #[.val (.ref od), .val (.int x103), .val (.int wc)] [(.int ((wc >>> ((8 : Int32) &&& 31)).toInt8.toInt32)), (.int x103), (.ref od)])) ?_ fun t k => (by
    refine XS.ishr X106.here hx rfl (hb hby own_d_jdk_52_m4_50) rfl ?_
    refine XS.i2b X106.here hx rfl (hb hby own_d_jdk_52_m4_51) rfl ?_
    exact k)
  have hi2 : x103 = Int32.ofNat (2 * nn + 1) := by rw [hx103, hi1, own_succ32]
  obtain ⟨cl107, Ar107, q107, S107, M107, H107, G107⟩ := id V105
  obtain ⟨T107, h107, X107, e107, W107, st107⟩ := stB X106 hx hZ e106 Ar107 (j := x103) (own_in S107 (by rw [hi2]; exact own_neg32 (by omega)) (by rw [hi2, own_n32 (by omega)]) (by rw [own_n32 (by omega)]; omega)) (g := (mkF m 52 #[.val (.ref od), .val (.int x103), .val (.int wc)] [(.int ((wc >>> ((8 : Int32) &&& 31)).toInt8.toInt32)), (.int x103), (.ref od)])) rfl rfl (hb hby own_d_jdk_52_m4_52)
  rw [own_narB, show ((wc >>> ((8 : Int32) &&& 31)).toInt8.toInt32) = StrChars.hi8 wc from rfl] at W107
  have Xo107 : Old Z n0 h107 := Xo105.wr W107 hG
  have KK107 : Keep h0 h107 [od] := KK105.wr W107 (Or.inl (List.mem_of_getElem? (i := 0) rfl))
  have V107 : Arv Z h107 od kd .byte (Int32.ofNat zn) (pA ++ .int (StrChars.lo8 wc) :: .int (StrChars.hi8 wc) :: pB) (.int (0 : Int32)) := by
    have q := Arv.set (v := (.int (StrChars.hi8 wc))) Ar107 q107 S107 M107 H107 G107 (StrChars.fits_lo8 _) W107 (2 * nn + 1) (by rw [hi2, own_n32 (by omega)]) (by simp; omega)
    rwa [← hA, own_setApp1] at q
  have N107 := Fr.snoc X107 N105 hG
  refine own_to (V := T107.setTop (mkF m 53 #[.val (.ref od), .val (.int x103), .val (.int wc)] [])) ?_ st107
  exact own_retV X107 hx hret hlk (hb hby own_d_jdk_52_m4_53) (by rw [e107]; exact (⟨rfl, N107, KK107, V107⟩)) (by decide) (by decide)
def own_Qtob2 (Z : State) (ob : Addr) (kC : ClassId) (cs : List Int32) (h0 : Heap) (n0 : Nat) (v : Option Value) (h : Heap) (L : List Loc) : Prop := (∃ (od : Addr) (kd : ClassId), v = some (.ref od) ∧ Fr n0 L ∧ Keep h0 h [] ∧ (h0.size ≤ od) ∧ (Arv Z h od kd .byte (Int32.ofNat (2 * cs.length)) (StrChars.Road.wideBytes cs) (.int (0 : Int32))))
set_option maxRecDepth 65536 in
set_option maxHeartbeats 40000000 in
theorem own_sgtobL (l : Launch) (Z : State) (a0 : Array Value) (hw : ∀ d ∈ tables_1, d.before a0 Z = true) (hst : own_St Z) (ob : Addr) (kC : ClassId) (cs : List Int32) (h0 : Heap) (n0 : Nat)
    {p : Program} {e : Env} {s : State} {m : MethodId} {args : Array Value} {below : List Frame} {meth : Method} {c : Code} (hx : p.tables.exec = Jvm.exec) (hby : c.code = jdk_52_method_14_code) (hret : meth.sig.returnType = (Option.some (Jvm.ClassFile.FieldType.array Jvm.ClassFile.FieldType.byte))) (hlk : meth.locks = false) (hml : c.maxLocals = 5) (hnm : meth.name = "toBytes") (hZ : Z.Warmed39 s.vm) (hown : s.vm.findClass "java/lang/StringUTF16" = some m.cls) (qs : List Int32) :
    ∀ (ps : List Int32) (od : Addr) (kd : ClassId) {T0 : State} {locs : List Loc} {h : Heap} (X0 : Stand p l e ({ frames := 3, cells := 1, slots := 6, locals := 40 } : Room) s m args below meth c T0 locs 1 6) (e0 : T0.heap = h) (N0 : Fr n0 locs) (Xo0 : Old Z n0 h) (KK0 : Keep h0 h []) (hcs : cs = ps ++ qs) (hV : Arv Z h ob kC .char (Int32.ofNat cs.length) (cs.map Value.int) (.int (0 : Int32))) (hD : Arv Z h od kd .byte (Int32.ofNat (2 * cs.length)) (StrChars.Road.wideBytes ps ++ List.replicate (2 * qs.length) (.int (0 : Int32))) (.int (0 : Int32))) (hne : ob ≠ od) (hG : n0 ≤ od) (hSz : h0.size ≤ od) (hB : ∀ c ∈ cs, ¬ c < 0 ∧ ¬ (65535 : Int32) < c) (hl : cs.length ≤ 3),
    own_Go p e below (own_Post s (own_Qtob2 Z ob kC cs h0 n0) ({ frames := 3, cells := 1, slots := 6, locals := 40 } : Room).cells ({ frames := 3, cells := 1, slots := 6, locals := 40 } : Room).slots) (T0.setTop (mkF m 8 #[.val (.ref ob), .val (.int (Int32.ofNat ps.length)), .val (.int (Int32.ofNat cs.length)), .val (.ref od), .val (.int (Int32.ofNat ps.length))] [])) := by
  induction qs with
  | nil =>
    intro ps od kd T0 locs h X0 e0 N0 Xo0 KK0 hcs hV hD hne hG hSz hB hl
    obtain ⟨⟨G1, O2, P5⟩, ⟨G3, O4, rG3⟩, ⟨uO1, uO2, uO3⟩, -⟩ := id hst
    have hlen : cs.length = ps.length + 0 := by rw [hcs]; simp
    refine own_to (V := T0.setTop (mkF m 33 #[.val (.ref ob), .val (.int (Int32.ofNat ps.length)), .val (.int (Int32.ofNat cs.length)), .val (.ref od), .val (.int (Int32.ofNat ps.length))] [(.ref od)])) ?_ fun t k => (by
      refine XS.iload X0.here hx rfl (hb hby own_d_jdk_52_m14_8) rfl ?_
      refine XS.iloadN X0.here hx rfl (hb hby own_d_jdk_52_m14_10) rfl ?_
      refine XS.icmpYes X0.here hx rfl (pc0 := 11) (pc' := 32) rfl (hb hby own_d_jdk_52_m14_11) rfl (flt (own_nlt32 (by omega) (by omega) : ¬ ((Int32.ofNat ps.length) < (Int32.ofNat cs.length)))).2.1 (by decide) (by decide) ?_
      refine XS.aloadN X0.here hx rfl (hb hby own_d_jdk_52_m14_32) rfl rfl ?_
      exact k)
    exact own_retR X0 hx hret (by decide) rfl hlk (hb hby own_d_jdk_52_m14_33) (by rw [e0]; exact (⟨od, kd, rfl, N0, KK0, hSz, (by have e : cs = ps := (by simpa using hcs); subst e; simpa using hD)⟩)) (by decide) (by decide)
  | cons cc qs ih =>
    intro ps od kd T0 locs h X0 e0 N0 Xo0 KK0 hcs hV hD hne hG hSz hB hl
    obtain ⟨⟨G1, O2, P5⟩, ⟨G3, O4, rG3⟩, ⟨uO1, uO2, uO3⟩, -⟩ := id hst
    have hlen : cs.length = ps.length + (qs.length + 1) := by rw [hcs]; simp
    refine own_to (V := T0.setTop (mkF m 19 #[.val (.ref ob), .val (.int (Int32.ofNat ps.length)), .val (.int (Int32.ofNat cs.length)), .val (.ref od), .val (.int (Int32.ofNat ps.length))] [(.int (Int32.ofNat ps.length)), (.ref ob), (.int (Int32.ofNat ps.length)), (.ref od)])) ?_ fun t k => (by
      refine XS.iload X0.here hx rfl (hb hby own_d_jdk_52_m14_8) rfl ?_
      refine XS.iloadN X0.here hx rfl (hb hby own_d_jdk_52_m14_10) rfl ?_
      refine XS.icmpNo X0.here hx rfl (hb hby own_d_jdk_52_m14_11) rfl (tlt (own_lt32 (by omega) (by omega) : (Int32.ofNat ps.length) < (Int32.ofNat cs.length))).2.1 ?_
      refine XS.aloadN X0.here hx rfl (hb hby own_d_jdk_52_m14_14) rfl rfl ?_
      refine XS.iload X0.here hx rfl (hb hby own_d_jdk_52_m14_15) rfl ?_
      refine XS.aloadN X0.here hx rfl (hb hby own_d_jdk_52_m14_17) rfl rfl ?_
      refine XS.iloadN X0.here hx rfl (hb hby own_d_jdk_52_m14_18) rfl ?_
      exact k)
    have hjn101 : ((Int32.ofNat ps.length)).toNatClampNeg = ps.length := (own_n32 (by omega))
    obtain ⟨cl101, Ar101, q101, S101, M101, H101, G101⟩ := id hV
    have hin101 : ¬ ((Int32.ofNat ps.length) < 0 ∨ cl101.slots.size ≤ ((Int32.ofNat ps.length)).toNatClampNeg) := own_in S101 (own_neg32 (by omega)) hjn101 (by rw [own_n32 (by omega)]; omega)
    refine own_to (V := T0.setTop (mkF m 20 #[.val (.ref ob), .val (.int (Int32.ofNat ps.length)), .val (.int (Int32.ofNat cs.length)), .val (.ref od), .val (.int (Int32.ofNat ps.length))] [(.int cc), (.int (Int32.ofNat ps.length)), (.ref od)])) ?_ (fun t k => X0.caload hx (j := (Int32.ofNat ps.length)) (v := (.int cc)) (by rw [e0]; exact Ar101.1) (State.isArrayOf_alike hZ.alike Ar101.2.1) Ar101.2.2 hin101 (Has.at H101 hin101 (by rw [hjn101]; exact (by rw [hcs]; exact own_getApp ps qs cc _))) (g := (mkF m 19 #[.val (.ref ob), .val (.int (Int32.ofNat ps.length)), .val (.int (Int32.ofNat cs.length)), .val (.ref od), .val (.int (Int32.ofNat ps.length))] [(.int (Int32.ofNat ps.length)), (.ref ob), (.int (Int32.ofNat ps.length)), (.ref od)])) rfl rfl (hb hby own_d_jdk_52_m14_19) t k)
    have hD' : Arv Z h od kd .byte (Int32.ofNat (2 * cs.length)) (StrChars.Road.wideBytes ps ++ (.int (0 : Int32)) :: (.int (0 : Int32)) :: List.replicate (2 * qs.length) (.int (0 : Int32))) (.int (0 : Int32)) := by simpa [own_rep2] using hD
    obtain ⟨_, _, ⟨T102, L102, k102, n102⟩, -, X102, ⟨Lc102, hQ102, l102, y102, z102⟩, st102⟩ := Jvm.LawKit.callS X0 hx (y := (⟨"java/lang/StringUTF16", "putChar", "([BII)V"⟩ : MethodName)) hown (mvT hZ (hw _ (List.mem_of_getElem? (i := 39) rfl))) (mvT hZ (hw _ (List.mem_of_getElem? (i := 40) rfl))) (mvT hZ (hw _ (List.mem_of_getElem? (i := 23) rfl))) (mvT hZ (hw _ (List.mem_of_getElem? (i := 41) rfl))) (by decide) (backOf (W := 0) (own_rmput l Z a0 hw hst [] od kd ps.length cc (2 * cs.length) (StrChars.Road.wideBytes ps) (List.replicate (2 * qs.length) (.int (0 : Int32))) (.int (0 : Int32)) (.int (0 : Int32)) h n0 Xo0 hD' (own_wbLen ps) (by first | assumption | decide | omega | (simp; done) | rfl) (by first | assumption | decide | omega | (simp; done) | rfl) hG) hZ (hw _ (List.mem_of_getElem? (i := 41) rfl)) (hw _ (List.mem_of_getElem? (i := 23) rfl)) (by decide) (by decide)) (g := (mkF m 20 #[.val (.ref ob), .val (.int (Int32.ofNat ps.length)), .val (.int (Int32.ofNat cs.length)), .val (.ref od), .val (.int (Int32.ofNat ps.length))] [(.int cc), (.int (Int32.ofNat ps.length)), (.ref od)])) rfl (by rw [hml]; rfl) (argsL := [(.ref od), (.int (Int32.ofNat ps.length)), (.int cc)]) (rest := []) (lenOf own_pd1 rfl) rfl (by show 2 * 0 + _ ≤ _; exact Nat.le_of_eq rfl) (hb hby own_d_jdk_52_m14_20) (fun _ _ => ⟨rfl, e0, (by decide : 1 + 0 ≤ _), (by decide : 6 + 0 ≤ _)⟩)
    dsimp only [Pt.U, Pt.locs, Pt.cells, Pt.slots] at X102 l102 y102 z102 st102 hQ102
    subst l102 y102 z102
    obtain ⟨hv102, N102q, K102, g102_0⟩ := hQ102
    subst hv102
    obtain ⟨h102, e102⟩ : ∃ z, T102.heap = z := ⟨_, rfl⟩
    rw [e102] at K102 g102_0
    have Xo102 : Old Z n0 h102 := Xo0.keep K102 (allS hG all0)
    have KK102 : Keep h0 h102 [] := KK0.trans K102 (allS (Or.inr hSz) all0)
    have N102 := Fr.app N0 N102q
    refine own_to (V := T102.setTop (mkF m 23 #[.val (.ref ob), .val (.int (Int32.ofNat ps.length)), .val (.int (Int32.ofNat cs.length)), .val (.ref od), .val (.int (Int32.ofNat ps.length))] [])) ?_ st102
    obtain ⟨x103, hx103⟩ : ∃ z : Int32, z = ((Int32.ofNat ps.length) + (1 : Int32)) := ⟨_, rfl⟩
    refine own_to (V := T102.setTop (mkF m 26 #[.val (.ref ob), .val (.int x103), .val (.int (Int32.ofNat cs.length)), .val (.ref od), .val (.int (Int32.ofNat ps.length))] [])) ?_ fun t k => (by
      first | rw [hx103] at k | skip
      refine XS.iinc X102.here hx rfl (hb hby own_d_jdk_52_m14_23) rfl (l' := #[.val (.ref ob), .val (.int ((Int32.ofNat ps.length) + (1 : Int32))), .val (.int (Int32.ofNat cs.length)), .val (.ref od), .val (.int (Int32.ofNat ps.length))]) rfl ?_
      exact k)
    obtain ⟨x104, hx104⟩ : ∃ z : Int32, z = ((Int32.ofNat ps.length) + (1 : Int32)) := ⟨_, rfl⟩
    refine own_to (V := T102.setTop (mkF m 29 #[.val (.ref ob), .val (.int x103), .val (.int (Int32.ofNat cs.length)), .val (.ref od), .val (.int x104)] [])) ?_ fun t k => (by
      first | rw [hx104] at k | skip
      refine XS.iinc X102.here hx rfl (hb hby own_d_jdk_52_m14_26) rfl (l' := #[.val (.ref ob), .val (.int x103), .val (.int (Int32.ofNat cs.length)), .val (.ref od), .val (.int ((Int32.ofNat ps.length) + (1 : Int32)))]) rfl ?_
      exact k)
    have hqx104 : x103 = x104 := hx103.trans hx104.symm
    subst hqx104
    refine own_to (V := T102.setTop (mkF m 8 #[.val (.ref ob), .val (.int x103), .val (.int (Int32.ofNat cs.length)), .val (.ref od), .val (.int x103)] [])) ?_ fun t k => (by
      refine XS.goto X102.here hx rfl (pc0 := 29) (pc' := 8) rfl (hb hby own_d_jdk_52_m14_29) (by decide) (by decide) ?_
      exact k)
    have hxe : x103 = Int32.ofNat (ps ++ [cc]).length := by rw [hx103, own_succ32]; simp
    rw [hxe]
    have F105 : Arv Z h102 ob kC .char (Int32.ofNat cs.length) (cs.map Value.int) (.int (0 : Int32)) := (hV.keep K102 (own_nmS hne own_nm0))
    exact ih (ps ++ [cc]) od kd X102 e102 N102 Xo102 KK102 (by rw [hcs]; simp) F105 (by rw [own_wbApp]; simpa [StrChars.Road.wideBytes] using g102_0) hne hG hSz hB hl
theorem own_ef_tob2 (m : MethodId) (ob : Addr) (cs : List Int32)  : entryFrame m #[(.ref ob), (.int (0 : Int32)), (.int (Int32.ofNat cs.length))] 5 = mkF m 0 #[.val (.ref ob), .val (.int (0 : Int32)), .val (.int (Int32.ofNat cs.length)), .unset, .unset] [] := by first | (simp [entryFrame, mkF, argsToLocals, Value.category]; done) | rfl
set_option maxRecDepth 65536 in
set_option maxHeartbeats 40000000 in
theorem own_rmtob2 (l : Launch) (Z : State) (a0 : Array Value) (hw : ∀ d ∈ tables_1, d.before a0 Z = true) (hst : own_St Z) (ws : List Jvm.Cond) (ob : Addr) (kC : ClassId) (cs : List Int32) (h0 : Heap) (n0 : Nat) (X00 : Old Z n0 h0) (hV : Arv Z h0 ob kC .char (Int32.ofNat cs.length) (cs.map Value.int) (.int (0 : Int32))) (hB : ∀ c ∈ cs, ¬ c < 0 ∧ ¬ (65535 : Int32) < c) (hl : cs.length ≤ 3) :
    MetFree l (⟨"java/lang/StringUTF16", "toBytes", "([CII)[B"⟩ : MethodName) (head1 (Jvm.Cond.code (⟨"java/lang/StringUTF16", "toBytes", "([CII)[B"⟩ : MethodName) jdk_52_method_14_code 5 (Option.some (Jvm.ClassFile.FieldType.array Jvm.ClassFile.FieldType.byte)) :: ws) ({ frames := 3, cells := 1, slots := 6, locals := 40 } : Room)) (fun a U => a = #[(.ref ob), (.int (0 : Int32)), (.int (Int32.ofNat cs.length))] ∧ Z.Warmed39 U.vm ∧ U.heap = h0) (fun _ _ _ _ _ => True) (fun _ U o U' => ∃ v L, o = .returned v ∧ own_Qtob2 Z ob kC cs h0 n0 v U'.heap L ∧ FrameEnd U o U' L ({ frames := 3, cells := 1, slots := 6, locals := 40 } : Room).cells ({ frames := 3, cells := 1, slots := 6, locals := 40 } : Room).slots) := by
  refine MetFree.of_bodySF (plainFor_of_name own_pn0) hisR ?_
  intro p e s m args below meth c s₁ Bd hml0 hP hK
  obtain ⟨rfl, hZ, hh⟩ := hP
  have hx := Bd.exec
  have hby := Bd.bytes
  have hret := Bd.returns
  have hlk : meth.locks = false := BodyLoose.notSynchronized Bd
  have hml : c.maxLocals = 5 := hml0
  have hown : s.vm.findClass "java/lang/StringUTF16" = some m.cls := findClass_of_methodNamed Bd.named
  have hnm := (name_of_methodNamed Bd.named Bd.method).1
  have X0 : Stand p l e ({ frames := 3, cells := 1, slots := 6, locals := 40 } : Room) s m #[(.ref ob), (.int (0 : Int32)), (.int (Int32.ofNat cs.length))] below meth c s₁ [] 0 0 := Stand.of_body Bd
  have e0 : s₁.heap = h0 := by rw [← hh, Bd.state]; rfl
  have N0 := Fr.nil n0
  have KK0 : Keep h0 h0 [] := Keep.refl h0 _
  refine own_start (own_Qtob2 Z ob kC cs h0 n0) ?_
  refine own_to (V := s₁.setTop (mkF m 0 #[.val (.ref ob), .val (.int (0 : Int32)), .val (.int (Int32.ofNat cs.length)), .unset, .unset] [])) ?_ (fun t k => castTop (own_ef_tob2 m ob cs ) k)
  obtain ⟨⟨G1, O2, P5⟩, ⟨G3, O4, rG3⟩, ⟨uO1, uO2, uO3⟩, -⟩ := id hst
  refine own_to (V := s₁.setTop (mkF m 1 #[.val (.ref ob), .val (.int (0 : Int32)), .val (.int (Int32.ofNat cs.length)), .unset, .unset] [(.int (Int32.ofNat cs.length))])) ?_ fun t k => (by
    refine XS.iloadN X0.here hx rfl (hb hby own_d_jdk_52_m14_0) rfl ?_
    exact k)
  obtain ⟨_, _, ⟨T101, L101, k101, n101⟩, -, X101, ⟨Lc101, hQ101, l101, y101, z101⟩, st101⟩ := Jvm.LawKit.callS X0 hx (y := (⟨"java/lang/StringUTF16", "newBytesFor", "(I)[B"⟩ : MethodName)) hown (mvT hZ (hw _ (List.mem_of_getElem? (i := 32) rfl))) (mvT hZ (hw _ (List.mem_of_getElem? (i := 33) rfl))) (mvT hZ (hw _ (List.mem_of_getElem? (i := 23) rfl))) (mvT hZ (hw _ (List.mem_of_getElem? (i := 34) rfl))) (by decide) (backOf (W := 0) (own_rmnbf l Z a0 hw hst [] cs.length h0 n0 X00 hl) hZ (hw _ (List.mem_of_getElem? (i := 34) rfl)) (hw _ (List.mem_of_getElem? (i := 23) rfl)) (by decide) (by decide)) (g := (mkF m 1 #[.val (.ref ob), .val (.int (0 : Int32)), .val (.int (Int32.ofNat cs.length)), .unset, .unset] [(.int (Int32.ofNat cs.length))])) rfl (by rw [hml]; rfl) (argsL := [(.int (Int32.ofNat cs.length))]) (rest := []) (lenOf own_pd2 rfl) rfl (by show 2 * 0 + _ ≤ _; exact Nat.le_of_eq rfl) (hb hby own_d_jdk_52_m14_1) (fun _ _ => ⟨rfl, e0, (by decide : 0 + 1 ≤ _), (by decide : 0 + 6 ≤ _)⟩)
  dsimp only [Pt.U, Pt.locs, Pt.cells, Pt.slots] at X101 l101 y101 z101 st101 hQ101
  subst l101 y101 z101
  obtain ⟨od101, kd101, hv101, N101q, K101, g101_0, g101_1⟩ := hQ101
  subst hv101
  obtain ⟨h101, e101⟩ : ∃ z, T101.heap = z := ⟨_, rfl⟩
  rw [e101] at K101 g101_1
  have Xo101 : Old Z n0 h101 := X00.keep K101 all0
  have KK101 : Keep h0 h101 [] := KK0.trans K101 all0
  have N101 := Fr.app N0 N101q
  have ge_od101 : n0 ≤ od101 := Nat.le_trans (own_ole X00) g101_0
  have sz_od101 : h0.size ≤ od101 := Nat.le_trans KK0.1 g101_0
  refine own_to (V := T101.setTop (mkF m 4 #[.val (.ref ob), .val (.int (0 : Int32)), .val (.int (Int32.ofNat cs.length)), .unset, .unset] [(.ref od101)])) ?_ st101
  refine own_to (V := T101.setTop (mkF m 8 #[.val (.ref ob), .val (.int (0 : Int32)), .val (.int (Int32.ofNat cs.length)), .val (.ref od101), .val (.int (0 : Int32))] [])) ?_ fun t k => (by
    refine XS.astoreN X101.here hx rfl (hb hby own_d_jdk_52_m14_4) rfl rfl (l' := #[.val (.ref ob), .val (.int (0 : Int32)), .val (.int (Int32.ofNat cs.length)), .val (.ref od101), .unset]) rfl ?_
    refine XS.iconst X101.here hx rfl (hb hby own_d_jdk_52_m14_5) ?_
    refine XS.istore X101.here hx rfl (hb hby own_d_jdk_52_m14_6) rfl (l' := #[.val (.ref ob), .val (.int (0 : Int32)), .val (.int (Int32.ofNat cs.length)), .val (.ref od101), .val (.int (0 : Int32))]) rfl ?_
    exact k)
  have F102 : Arv Z h101 ob kC .char (Int32.ofNat cs.length) (cs.map Value.int) (.int (0 : Int32)) := (hV.keep K101 List.not_mem_nil)
  exact own_sgtobL l Z a0 hw hst ob kC cs h0 n0 hx hby hret hlk hml hnm hZ hown cs ([] : List Int32) od101 kd101 X101 e101 N101 Xo101 KK101 rfl F102 g101_1 (Nat.ne_of_lt (Nat.lt_of_lt_of_le hV.lt g101_0)) ge_od101 sz_od101 hB hl
def own_Qcmp5 (Z : State) (ob : Addr) (od : Addr) (kC : ClassId) (kD : ClassId) (cs : List Int32) (h0 : Heap) (n0 : Nat) (v : Option Value) (h : Heap) (L : List Loc) : Prop := (v = some (.int (Int32.ofNat cs.length)) ∧ Fr n0 L ∧ Keep h0 h [od] ∧ (∀ c ∈ cs, ¬ (255 : Int32) < c) ∧ (Arv Z h od kD .byte (Int32.ofNat cs.length) (cs.map own_loV) (.int (0 : Int32)))) ∨ (∃ (ps : List Int32) (cc : Int32) (qs : List Int32), v = some (.int (Int32.ofNat ps.length)) ∧ Fr n0 L ∧ Keep h0 h [od] ∧ (cs = ps ++ cc :: qs) ∧ ((255 : Int32) < cc))
set_option maxRecDepth 65536 in
set_option maxHeartbeats 40000000 in
theorem own_sgcmpL (l : Launch) (Z : State) (a0 : Array Value) (hw : ∀ d ∈ tables_1, d.before a0 Z = true) (hst : own_St Z) (ob : Addr) (od : Addr) (kC : ClassId) (kD : ClassId) (cs : List Int32) (h0 : Heap) (n0 : Nat)
    {p : Program} {e : Env} {s : State} {m : MethodId} {args : Array Value} {below : List Frame} {meth : Method} {c : Code} (hx : p.tables.exec = Jvm.exec) (hby : c.code = jdk_52_method_21_code) (hret : meth.sig.returnType = (Option.some Jvm.ClassFile.FieldType.int)) (hlk : meth.locks = false) (hml : c.maxLocals = 7) (hnm : meth.name = "compress") (hZ : Z.Warmed39 s.vm) (hown : s.vm.findClass "java/lang/StringUTF16" = some m.cls) (qs : List Int32) :
    ∀ (ps : List Int32) (s6 : Slot) {T0 : State} {locs : List Loc} {h : Heap} (X0 : Stand p l e ({ frames := 0, cells := 0, slots := 0, locals := 0 } : Room) s m args below meth c T0 locs 0 0) (e0 : T0.heap = h) (N0 : Fr n0 locs) (Xo0 : Old Z n0 h) (KK0 : Keep h0 h [od]) (hcs : cs = ps ++ qs) (hs6 : One s6) (hV : Arv Z h ob kC .char (Int32.ofNat cs.length) (cs.map Value.int) (.int (0 : Int32))) (hD : Arv Z h od kD .byte (Int32.ofNat cs.length) (ps.map own_loV ++ List.replicate qs.length (.int (0 : Int32))) (.int (0 : Int32))) (hlat : ∀ c ∈ ps, ¬ (255 : Int32) < c) (hne : ob ≠ od) (hG : n0 ≤ od) (hB : ∀ c ∈ cs, ¬ c < 0 ∧ ¬ (65535 : Int32) < c) (hl : cs.length ≤ 3),
    own_Go p e below (own_Post s (own_Qcmp5 Z ob od kC kD cs h0 n0) ({ frames := 0, cells := 0, slots := 0, locals := 0 } : Room).cells ({ frames := 0, cells := 0, slots := 0, locals := 0 } : Room).slots) (T0.setTop (mkF m 3 #[.val (.ref ob), .val (.int (Int32.ofNat ps.length)), .val (.ref od), .val (.int (Int32.ofNat ps.length)), .val (.int (Int32.ofNat cs.length)), .val (.int (Int32.ofNat ps.length)), s6] [])) := by
  induction qs with
  | nil =>
    intro ps s6 T0 locs h X0 e0 N0 Xo0 KK0 hcs hs6 hV hD hlat hne hG hB hl
    obtain ⟨⟨G1, O2, P5⟩, ⟨G3, O4, rG3⟩, ⟨uO1, uO2, uO3⟩, -⟩ := id hst
    have hlen : cs.length = ps.length + 0 := by rw [hcs]; simp
    refine own_to (V := T0.setTop (mkF m 46 #[.val (.ref ob), .val (.int (Int32.ofNat ps.length)), .val (.ref od), .val (.int (Int32.ofNat ps.length)), .val (.int (Int32.ofNat cs.length)), .val (.int (Int32.ofNat ps.length)), s6] [(.int (Int32.ofNat cs.length))])) ?_ fun t k => (by
      refine XS.iload X0.here hx rfl (hb hby own_d_jdk_52_m21_3) rfl ?_
      refine XS.iload X0.here hx rfl (hb hby own_d_jdk_52_m21_5) rfl ?_
      refine XS.icmpYes X0.here hx rfl (pc0 := 7) (pc' := 44) rfl (hb hby own_d_jdk_52_m21_7) rfl (flt (own_nlt32 (by omega) (by omega) : ¬ ((Int32.ofNat ps.length) < (Int32.ofNat cs.length)))).2.1 (by decide) (by decide) ?_
      refine XS.iload X0.here hx rfl (hb hby own_d_jdk_52_m21_44) rfl ?_
      exact k)
    exact own_retI X0 hx hret hlk (hb hby own_d_jdk_52_m21_46) (by rw [e0]; exact (Or.inl ⟨rfl, N0, KK0, (by have e : cs = ps := (by simpa using hcs); subst e; exact hlat), (by have e : cs = ps := (by simpa using hcs); subst e; simpa using hD)⟩)) (by decide) (by decide)
  | cons cc qs ih =>
    intro ps s6 T0 locs h X0 e0 N0 Xo0 KK0 hcs hs6 hV hD hlat hne hG hB hl
    obtain ⟨⟨G1, O2, P5⟩, ⟨G3, O4, rG3⟩, ⟨uO1, uO2, uO3⟩, -⟩ := id hst
    have hlen : cs.length = ps.length + (qs.length + 1) := by rw [hcs]; simp
    refine own_to (V := T0.setTop (mkF m 12 #[.val (.ref ob), .val (.int (Int32.ofNat ps.length)), .val (.ref od), .val (.int (Int32.ofNat ps.length)), .val (.int (Int32.ofNat cs.length)), .val (.int (Int32.ofNat ps.length)), s6] [(.int (Int32.ofNat ps.length)), (.ref ob)])) ?_ fun t k => (by
      refine XS.iload X0.here hx rfl (hb hby own_d_jdk_52_m21_3) rfl ?_
      refine XS.iload X0.here hx rfl (hb hby own_d_jdk_52_m21_5) rfl ?_
      refine XS.icmpNo X0.here hx rfl (hb hby own_d_jdk_52_m21_7) rfl (tlt (own_lt32 (by omega) (by omega) : (Int32.ofNat ps.length) < (Int32.ofNat cs.length))).2.1 ?_
      refine XS.aloadN X0.here hx rfl (hb hby own_d_jdk_52_m21_10) rfl rfl ?_
      refine XS.iloadN X0.here hx rfl (hb hby own_d_jdk_52_m21_11) rfl ?_
      exact k)
    have hjn101 : ((Int32.ofNat ps.length)).toNatClampNeg = ps.length := (own_n32 (by omega))
    obtain ⟨cl101, Ar101, q101, S101, M101, H101, G101⟩ := id hV
    have hin101 : ¬ ((Int32.ofNat ps.length) < 0 ∨ cl101.slots.size ≤ ((Int32.ofNat ps.length)).toNatClampNeg) := own_in S101 (own_neg32 (by omega)) hjn101 (by rw [own_n32 (by omega)]; omega)
    refine own_to (V := T0.setTop (mkF m 13 #[.val (.ref ob), .val (.int (Int32.ofNat ps.length)), .val (.ref od), .val (.int (Int32.ofNat ps.length)), .val (.int (Int32.ofNat cs.length)), .val (.int (Int32.ofNat ps.length)), s6] [(.int cc)])) ?_ (fun t k => X0.caload hx (j := (Int32.ofNat ps.length)) (v := (.int cc)) (by rw [e0]; exact Ar101.1) (State.isArrayOf_alike hZ.alike Ar101.2.1) Ar101.2.2 hin101 (Has.at H101 hin101 (by rw [hjn101]; exact (by rw [hcs]; exact own_getApp ps qs cc _))) (g := (mkF m 12 #[.val (.ref ob), .val (.int (Int32.ofNat ps.length)), .val (.ref od), .val (.int (Int32.ofNat ps.length)), .val (.int (Int32.ofNat cs.length)), .val (.int (Int32.ofNat ps.length)), s6] [(.int (Int32.ofNat ps.length)), (.ref ob)])) rfl rfl (hb hby own_d_jdk_52_m21_12) t k)
    refine own_to (V := T0.setTop (mkF m 20 #[.val (.ref ob), .val (.int (Int32.ofNat ps.length)), .val (.ref od), .val (.int (Int32.ofNat ps.length)), .val (.int (Int32.ofNat cs.length)), .val (.int (Int32.ofNat ps.length)), .val (.int cc)] [(.int (255 : Int32)), (.int cc)])) ?_ fun t k => (by
      refine XS.istore X0.here hx rfl (hb hby own_d_jdk_52_m21_13) rfl (l' := #[.val (.ref ob), .val (.int (Int32.ofNat ps.length)), .val (.ref od), .val (.int (Int32.ofNat ps.length)), .val (.int (Int32.ofNat cs.length)), .val (.int (Int32.ofNat ps.length)), .val (.int cc)]) (by rcases hs6 with rfl | ⟨w, rfl, hw6⟩; rfl; cases w <;> first | rfl | (simp [Value.category] at hw6)) ?_
      refine XS.iload X0.here hx rfl (hb hby own_d_jdk_52_m21_15) rfl ?_
      refine XS.sipush X0.here hx rfl (hb hby own_d_jdk_52_m21_17) ?_
      exact k)
    by_cases hc20_102 : (255 : Int32) < cc
    · skip
      refine own_to (V := T0.setTop (mkF m 25 #[.val (.ref ob), .val (.int (Int32.ofNat ps.length)), .val (.ref od), .val (.int (Int32.ofNat ps.length)), .val (.int (Int32.ofNat cs.length)), .val (.int (Int32.ofNat ps.length)), .val (.int cc)] [(.int (Int32.ofNat ps.length))])) ?_ fun t k => (by
        refine XS.icmpNo X0.here hx rfl (hb hby own_d_jdk_52_m21_20) rfl (tlt (hc20_102 : (255 : Int32) < cc)).2.2.2 ?_
        refine XS.iload X0.here hx rfl (hb hby own_d_jdk_52_m21_23) rfl ?_
        exact k)
      exact own_retI X0 hx hret hlk (hb hby own_d_jdk_52_m21_25) (by rw [e0]; exact (Or.inr (⟨ps, cc, qs, rfl, N0, KK0, hcs, hc20_102⟩))) (by decide) (by decide)
    · skip
      refine own_to (V := T0.setTop (mkF m 31 #[.val (.ref ob), .val (.int (Int32.ofNat ps.length)), .val (.ref od), .val (.int (Int32.ofNat ps.length)), .val (.int (Int32.ofNat cs.length)), .val (.int (Int32.ofNat ps.length)), .val (.int cc)] [(.int (cc.toInt8.toInt32)), (.int (Int32.ofNat ps.length)), (.ref od)])) ?_ fun t k => (by
        refine XS.icmpYes X0.here hx rfl (pc0 := 20) (pc' := 26) rfl (hb hby own_d_jdk_52_m21_20) rfl (flt (hc20_102 : ¬ ((255 : Int32) < cc))).2.2.2 (by decide) (by decide) ?_
        refine XS.aloadN X0.here hx rfl (hb hby own_d_jdk_52_m21_26) rfl rfl ?_
        refine XS.iloadN X0.here hx rfl (hb hby own_d_jdk_52_m21_27) rfl ?_
        refine XS.iload X0.here hx rfl (hb hby own_d_jdk_52_m21_28) rfl ?_
        refine XS.i2b X0.here hx rfl (hb hby own_d_jdk_52_m21_30) rfl ?_
        exact k)
      obtain ⟨cl103, Ar103, q103, S103, M103, H103, G103⟩ := id hD
      obtain ⟨T103, h103, X103, e103, W103, st103⟩ := stB X0 hx hZ e0 Ar103 (j := (Int32.ofNat ps.length)) (own_in S103 (own_neg32 (by omega)) (own_n32 (by omega)) (by rw [own_n32 (by omega)]; omega)) (g := (mkF m 31 #[.val (.ref ob), .val (.int (Int32.ofNat ps.length)), .val (.ref od), .val (.int (Int32.ofNat ps.length)), .val (.int (Int32.ofNat cs.length)), .val (.int (Int32.ofNat ps.length)), .val (.int cc)] [(.int (cc.toInt8.toInt32)), (.int (Int32.ofNat ps.length)), (.ref od)])) rfl rfl (hb hby own_d_jdk_52_m21_31)
      rw [own_narB, show (cc.toInt8.toInt32) = StrChars.lo8 cc from rfl] at W103
      have Xo103 : Old Z n0 h103 := Xo0.wr W103 hG
      have KK103 : Keep h0 h103 [od] := KK0.wr W103 (Or.inl (List.mem_of_getElem? (i := 0) rfl))
      have V103 : Arv Z h103 od kD .byte (Int32.ofNat cs.length) ((ps ++ [cc]).map own_loV ++ List.replicate qs.length (.int (0 : Int32))) (.int (0 : Int32)) := by
        have q := Arv.set (v := (.int (StrChars.lo8 cc))) Ar103 q103 S103 M103 H103 G103 (StrChars.fits_lo8 _) W103 ps.length (own_n32 (by omega)) (by simp)
        rwa [show (ps.map own_loV ++ List.replicate (cc :: qs).length (Value.int (0 : Int32))).set ps.length (Value.int (StrChars.lo8 cc)) = (ps ++ [cc]).map own_loV ++ List.replicate qs.length (Value.int (0 : Int32)) from own_set1 ps qs cc] at q
      have N103 := Fr.snoc X103 N0 hG
      refine own_to (V := T103.setTop (mkF m 32 #[.val (.ref ob), .val (.int (Int32.ofNat ps.length)), .val (.ref od), .val (.int (Int32.ofNat ps.length)), .val (.int (Int32.ofNat cs.length)), .val (.int (Int32.ofNat ps.length)), .val (.int cc)] [])) ?_ st103
      obtain ⟨x104, hx104⟩ : ∃ z : Int32, z = ((Int32.ofNat ps.length) + (1 : Int32)) := ⟨_, rfl⟩
      refine own_to (V := T103.setTop (mkF m 35 #[.val (.ref ob), .val (.int x104), .val (.ref od), .val (.int (Int32.ofNat ps.length)), .val (.int (Int32.ofNat cs.length)), .val (.int (Int32.ofNat ps.length)), .val (.int cc)] [])) ?_ fun t k => (by
        first | rw [hx104] at k | skip
        refine XS.iinc X103.here hx rfl (hb hby own_d_jdk_52_m21_32) rfl (l' := #[.val (.ref ob), .val (.int ((Int32.ofNat ps.length) + (1 : Int32))), .val (.ref od), .val (.int (Int32.ofNat ps.length)), .val (.int (Int32.ofNat cs.length)), .val (.int (Int32.ofNat ps.length)), .val (.int cc)]) rfl ?_
        exact k)
      obtain ⟨x105, hx105⟩ : ∃ z : Int32, z = ((Int32.ofNat ps.length) + (1 : Int32)) := ⟨_, rfl⟩
      refine own_to (V := T103.setTop (mkF m 38 #[.val (.ref ob), .val (.int x104), .val (.ref od), .val (.int x105), .val (.int (Int32.ofNat cs.length)), .val (.int (Int32.ofNat ps.length)), .val (.int cc)] [])) ?_ fun t k => (by
        first | rw [hx105] at k | skip
        refine XS.iinc X103.here hx rfl (hb hby own_d_jdk_52_m21_35) rfl (l' := #[.val (.ref ob), .val (.int x104), .val (.ref od), .val (.int ((Int32.ofNat ps.length) + (1 : Int32))), .val (.int (Int32.ofNat cs.length)), .val (.int (Int32.ofNat ps.length)), .val (.int cc)]) rfl ?_
        exact k)
      have hqx105 : x104 = x105 := hx104.trans hx105.symm
      subst hqx105
      obtain ⟨x106, hx106⟩ : ∃ z : Int32, z = ((Int32.ofNat ps.length) + (1 : Int32)) := ⟨_, rfl⟩
      refine own_to (V := T103.setTop (mkF m 41 #[.val (.ref ob), .val (.int x104), .val (.ref od), .val (.int x104), .val (.int (Int32.ofNat cs.length)), .val (.int x106), .val (.int cc)] [])) ?_ fun t k => (by
        first | rw [hx106] at k | skip
        refine XS.iinc X103.here hx rfl (hb hby own_d_jdk_52_m21_38) rfl (l' := #[.val (.ref ob), .val (.int x104), .val (.ref od), .val (.int x104), .val (.int (Int32.ofNat cs.length)), .val (.int ((Int32.ofNat ps.length) + (1 : Int32))), .val (.int cc)]) rfl ?_
        exact k)
      have hqx106 : x104 = x106 := hx104.trans hx106.symm
      subst hqx106
      refine own_to (V := T103.setTop (mkF m 3 #[.val (.ref ob), .val (.int x104), .val (.ref od), .val (.int x104), .val (.int (Int32.ofNat cs.length)), .val (.int x104), .val (.int cc)] [])) ?_ fun t k => (by
        refine XS.goto X103.here hx rfl (pc0 := 41) (pc' := 3) rfl (hb hby own_d_jdk_52_m21_41) (by decide) (by decide) ?_
        exact k)
      have hxe : x104 = Int32.ofNat (ps ++ [cc]).length := by rw [hx104, own_succ32]; simp
      rw [hxe]
      have F107 : Arv Z h103 ob kC .char (Int32.ofNat cs.length) (cs.map Value.int) (.int (0 : Int32)) := (hV.other W103 hne)
      exact ih (ps ++ [cc]) (.val (.int cc)) X103 e103 N103 Xo103 KK103 (by rw [hcs]; simp) (One.val rfl) F107 V103 (fun c hc => (List.mem_append.mp hc).elim (hlat c) (fun q => by rw [List.mem_singleton.mp q]; exact hc20_102)) hne hG hB hl
theorem own_ef_cmp5 (m : MethodId) (ob : Addr) (od : Addr) (cs : List Int32)  : entryFrame m #[(.ref ob), (.int (0 : Int32)), (.ref od), (.int (0 : Int32)), (.int (Int32.ofNat cs.length))] 7 = mkF m 0 #[.val (.ref ob), .val (.int (0 : Int32)), .val (.ref od), .val (.int (0 : Int32)), .val (.int (Int32.ofNat cs.length)), .unset, .unset] [] := by first | (simp [entryFrame, mkF, argsToLocals, Value.category]; done) | rfl
set_option maxRecDepth 65536 in
set_option maxHeartbeats 40000000 in
theorem own_rmcmp5 (l : Launch) (Z : State) (a0 : Array Value) (hw : ∀ d ∈ tables_1, d.before a0 Z = true) (hst : own_St Z) (ws : List Jvm.Cond) (ob : Addr) (od : Addr) (kC : ClassId) (kD : ClassId) (cs : List Int32) (h0 : Heap) (n0 : Nat) (X00 : Old Z n0 h0) (hV : Arv Z h0 ob kC .char (Int32.ofNat cs.length) (cs.map Value.int) (.int (0 : Int32))) (hD : Arv Z h0 od kD .byte (Int32.ofNat cs.length) (List.replicate cs.length (.int (0 : Int32))) (.int (0 : Int32))) (hne : ob ≠ od) (hG : n0 ≤ od) (hB : ∀ c ∈ cs, ¬ c < 0 ∧ ¬ (65535 : Int32) < c) (hl : cs.length ≤ 3) :
    MetFree l (⟨"java/lang/StringUTF16", "compress", "([CI[BII)I"⟩ : MethodName) (head1 (Jvm.Cond.code (⟨"java/lang/StringUTF16", "compress", "([CI[BII)I"⟩ : MethodName) jdk_52_method_21_code 7 (Option.some Jvm.ClassFile.FieldType.int) :: ws) ({ frames := 0, cells := 0, slots := 0, locals := 0 } : Room)) (fun a U => a = #[(.ref ob), (.int (0 : Int32)), (.ref od), (.int (0 : Int32)), (.int (Int32.ofNat cs.length))] ∧ Z.Warmed39 U.vm ∧ U.heap = h0) (fun _ _ _ _ _ => True) (fun _ U o U' => ∃ v L, o = .returned v ∧ own_Qcmp5 Z ob od kC kD cs h0 n0 v U'.heap L ∧ FrameEnd U o U' L ({ frames := 0, cells := 0, slots := 0, locals := 0 } : Room).cells ({ frames := 0, cells := 0, slots := 0, locals := 0 } : Room).slots) := by
  refine MetFree.of_bodySF (plainFor_of_name own_pn0) hisR ?_
  intro p e s m args below meth c s₁ Bd hml0 hP hK
  obtain ⟨rfl, hZ, hh⟩ := hP
  have hx := Bd.exec
  have hby := Bd.bytes
  have hret := Bd.returns
  have hlk : meth.locks = false := BodyLoose.notSynchronized Bd
  have hml : c.maxLocals = 7 := hml0
  have hown : s.vm.findClass "java/lang/StringUTF16" = some m.cls := findClass_of_methodNamed Bd.named
  have hnm := (name_of_methodNamed Bd.named Bd.method).1
  have X0 : Stand p l e ({ frames := 0, cells := 0, slots := 0, locals := 0 } : Room) s m #[(.ref ob), (.int (0 : Int32)), (.ref od), (.int (0 : Int32)), (.int (Int32.ofNat cs.length))] below meth c s₁ [] 0 0 := Stand.of_body Bd
  have e0 : s₁.heap = h0 := by rw [← hh, Bd.state]; rfl
  have N0 := Fr.nil n0
  have KK0 : Keep h0 h0 [od] := Keep.refl h0 _
  refine own_start (own_Qcmp5 Z ob od kC kD cs h0 n0) ?_
  refine own_to (V := s₁.setTop (mkF m 0 #[.val (.ref ob), .val (.int (0 : Int32)), .val (.ref od), .val (.int (0 : Int32)), .val (.int (Int32.ofNat cs.length)), .unset, .unset] [])) ?_ (fun t k => castTop (own_ef_cmp5 m ob od cs ) k)
  obtain ⟨⟨G1, O2, P5⟩, ⟨G3, O4, rG3⟩, ⟨uO1, uO2, uO3⟩, -⟩ := id hst
  refine own_to (V := s₁.setTop (mkF m 3 #[.val (.ref ob), .val (.int (0 : Int32)), .val (.ref od), .val (.int (0 : Int32)), .val (.int (Int32.ofNat cs.length)), .val (.int (0 : Int32)), .unset] [])) ?_ fun t k => (by
    refine XS.iconst X0.here hx rfl (hb hby own_d_jdk_52_m21_0) ?_
    refine XS.istore X0.here hx rfl (hb hby own_d_jdk_52_m21_1) rfl (l' := #[.val (.ref ob), .val (.int (0 : Int32)), .val (.ref od), .val (.int (0 : Int32)), .val (.int (Int32.ofNat cs.length)), .val (.int (0 : Int32)), .unset]) rfl ?_
    exact k)
  exact own_sgcmpL l Z a0 hw hst ob od kC kD cs h0 n0 hx hby hret hlk hml hnm hZ hown cs ([] : List Int32) .unset X0 e0 N0 X00 KK0 rfl One.u hV hD (fun _ q => nomatch q) hne hG hB hl
def own_Qgetc (Z : State) (oa : Addr) (kd : ClassId) (cs : List Int32) (ps : List Int32) (cc : Int32) (qs : List Int32) (h0 : Heap) (n0 : Nat) (v : Option Value) (h : Heap) (L : List Loc) : Prop := (v = some (.int cc) ∧ Fr n0 L ∧ Keep h0 h [])
theorem own_ef_getc (m : MethodId) (oa : Addr) (ps : List Int32)  : entryFrame m #[(.ref oa), (.int (Int32.ofNat ps.length))] 2 = mkF m 0 #[.val (.ref oa), .val (.int (Int32.ofNat ps.length))] [] := by first | (simp [entryFrame, mkF, argsToLocals, Value.category]; done) | rfl
set_option maxRecDepth 65536 in
set_option maxHeartbeats 40000000 in
theorem own_rmgetc (l : Launch) (Z : State) (a0 : Array Value) (hw : ∀ d ∈ tables_1, d.before a0 Z = true) (hst : own_St Z) (ws : List Jvm.Cond) (oa : Addr) (kd : ClassId) (cs : List Int32) (ps : List Int32) (cc : Int32) (qs : List Int32) (h0 : Heap) (n0 : Nat) (X00 : Old Z n0 h0) (hV : Arv Z h0 oa kd .byte (Int32.ofNat (2 * cs.length)) (StrChars.Road.wideBytes cs) (.int (0 : Int32))) (hcs : cs = ps ++ cc :: qs) (hcc : ¬ cc < 0 ∧ ¬ (65535 : Int32) < cc) (hl : cs.length ≤ 3) :
    MetFree l (⟨"java/lang/StringUTF16", "getChar", "([BI)C"⟩ : MethodName) (head1 (Jvm.Cond.code (⟨"java/lang/StringUTF16", "getChar", "([BI)C"⟩ : MethodName) jdk_52_method_5_code 2 (Option.some Jvm.ClassFile.FieldType.char) :: ws) ({ frames := 0, cells := 0, slots := 0, locals := 0 } : Room)) (fun a U => a = #[(.ref oa), (.int (Int32.ofNat ps.length))] ∧ Z.Warmed39 U.vm ∧ U.heap = h0) (fun _ _ _ _ _ => True) (fun _ U o U' => ∃ v L, o = .returned v ∧ own_Qgetc Z oa kd cs ps cc qs h0 n0 v U'.heap L ∧ FrameEnd U o U' L ({ frames := 0, cells := 0, slots := 0, locals := 0 } : Room).cells ({ frames := 0, cells := 0, slots := 0, locals := 0 } : Room).slots) := by
  refine MetFree.of_bodySF (plainFor_of_name own_pn0) hisR ?_
  intro p e s m args below meth c s₁ Bd hml0 hP hK
  obtain ⟨rfl, hZ, hh⟩ := hP
  have hx := Bd.exec
  have hby := Bd.bytes
  have hret := Bd.returns
  have hlk : meth.locks = false := BodyLoose.notSynchronized Bd
  have hml : c.maxLocals = 2 := hml0
  have hown : s.vm.findClass "java/lang/StringUTF16" = some m.cls := findClass_of_methodNamed Bd.named
  have hnm := (name_of_methodNamed Bd.named Bd.method).1
  have X0 : Stand p l e ({ frames := 0, cells := 0, slots := 0, locals := 0 } : Room) s m #[(.ref oa), (.int (Int32.ofNat ps.length))] below meth c s₁ [] 0 0 := Stand.of_body Bd
  have e0 : s₁.heap = h0 := by rw [← hh, Bd.state]; rfl
  have N0 := Fr.nil n0
  have KK0 : Keep h0 h0 [] := Keep.refl h0 _
  refine own_start (own_Qgetc Z oa kd cs ps cc qs h0 n0) ?_
  refine own_to (V := s₁.setTop (mkF m 0 #[.val (.ref oa), .val (.int (Int32.ofNat ps.length))] [])) ?_ (fun t k => castTop (own_ef_getc m oa ps ) k)
  obtain ⟨⟨G1, O2, P5⟩, ⟨G3, O4, rG3⟩, ⟨uO1, uO2, uO3⟩, -⟩ := id hst
  obtain ⟨T101, X101, e101, st101⟩ := getS2 X0 hx hZ hown (host := "") (Or.inl (hw _ (List.mem_of_getElem? (i := 42) rfl))) Via.refl e0 (uO1.ext X00.2) (g := (mkF m 0 #[.val (.ref oa), .val (.int (Int32.ofNat ps.length))] [])) rfl (hb hby own_d_jdk_52_m5_0)
  refine own_to (V := T101.setTop (mkF m 3 #[.val (.ref oa), .val (.int (Int32.ofNat ps.length))] [(.int (1 : Int32))])) ?_ st101
  obtain ⟨x102, hx102⟩ : ∃ z : Int32, z = ((Int32.ofNat ps.length) <<< ((1 : Int32) &&& 31)) := ⟨_, rfl⟩
  refine own_to (V := T101.setTop (mkF m 32 #[.val (.ref oa), .val (.int x102)] [])) ?_ fun t k => (by
    first | rw [hx102] at k | skip
    refine XS.ifYes X101.here hx rfl (pc0 := 3) (pc' := 28) rfl (hb hby own_d_jdk_52_m5_3) rfl ((if0 _ _).trans (feq ((by decide) : ¬ ((1 : Int32) = (0 : Int32)))).2) (by decide) (by decide) ?_
    refine XS.iloadN X101.here hx rfl (hb hby own_d_jdk_52_m5_28) rfl ?_
    refine XS.iconst X101.here hx rfl (hb hby own_d_jdk_52_m5_29) ?_
    refine XS.ishl X101.here hx rfl (hb hby own_d_jdk_52_m5_30) rfl ?_
    refine XS.istoreN X101.here hx rfl (hb hby own_d_jdk_52_m5_31) rfl (l' := #[.val (.ref oa), .val (.int ((Int32.ofNat ps.length) <<< ((1 : Int32) &&& 31)))]) rfl ?_
    exact k)
  have hlen : cs.length = ps.length + (qs.length + 1) := by rw [hcs]; simp
  have hi1 : x102 = Int32.ofNat (2 * ps.length) := by rw [hx102, own_shl32]
  obtain ⟨x103, hx103⟩ : ∃ z : Int32, z = (x102 + (1 : Int32)) := ⟨_, rfl⟩
  refine own_to (V := T101.setTop (mkF m 37 #[.val (.ref oa), .val (.int x103)] [(.int x102), (.ref oa)])) ?_ fun t k => (by
    first | rw [hx103] at k | skip
    refine XS.aloadN X101.here hx rfl (hb hby own_d_jdk_52_m5_32) rfl rfl ?_
    refine XS.iloadN X101.here hx rfl (hb hby own_d_jdk_52_m5_33) rfl ?_
    refine XS.iinc X101.here hx rfl (hb hby own_d_jdk_52_m5_34) rfl (l' := #[.val (.ref oa), .val (.int (x102 + (1 : Int32)))]) rfl ?_
    exact k)
  have hjn104 : (x102).toNatClampNeg = (2 * ps.length) := (show _ = 2 * ps.length by rw [hi1, own_n32 (by omega)])
  obtain ⟨cl104, Ar104, q104, S104, M104, H104, G104⟩ := id hV
  have hin104 : ¬ (x102 < 0 ∨ cl104.slots.size ≤ (x102).toNatClampNeg) := own_in S104 (by rw [hi1]; exact own_neg32 (by omega)) hjn104 (by rw [own_n32 (by omega)]; omega)
  refine own_to (V := T101.setTop (mkF m 38 #[.val (.ref oa), .val (.int x103)] [(.int (StrChars.lo8 cc))])) ?_ (fun t k => X101.baloadBytes hx (j := x102) (v := (.int (StrChars.lo8 cc))) (by rw [e101]; exact Ar104.1) (State.isArrayOf_alike hZ.alike Ar104.2.1) Ar104.2.2 hin104 (Has.at H104 hin104 (by rw [hjn104]; exact (by rw [hcs]; exact own_wbLo ps qs cc _))) (g := (mkF m 37 #[.val (.ref oa), .val (.int x103)] [(.int x102), (.ref oa)])) rfl rfl (hb hby own_d_jdk_52_m5_37) t k)
  refine own_to (V := T101.setTop (mkF m 42 #[.val (.ref oa), .val (.int x103)] [(.int ((StrChars.lo8 cc) &&& (255 : Int32)))])) ?_ fun t k => (by
    refine XS.sipush X101.here hx rfl (hb hby own_d_jdk_52_m5_38) ?_
    refine XS.iand X101.here hx rfl (hb hby own_d_jdk_52_m5_41) rfl ?_
    exact k)
  obtain ⟨T105, X105, e105, st105⟩ := getS2 X101 hx hZ hown (host := "") (Or.inl (hw _ (List.mem_of_getElem? (i := 43) rfl))) Via.refl e101 (uO2.ext X00.2) (g := (mkF m 42 #[.val (.ref oa), .val (.int x103)] [(.int ((StrChars.lo8 cc) &&& (255 : Int32)))])) rfl (hb hby own_d_jdk_52_m5_42)
  refine own_to (V := T105.setTop (mkF m 45 #[.val (.ref oa), .val (.int x103)] [(.int (0 : Int32)), (.int ((StrChars.lo8 cc) &&& (255 : Int32)))])) ?_ st105
  refine own_to (V := T105.setTop (mkF m 48 #[.val (.ref oa), .val (.int x103)] [(.int x103), (.ref oa), (.int (((StrChars.lo8 cc) &&& (255 : Int32)) <<< ((0 : Int32) &&& 31)))])) ?_ fun t k => (by
    refine XS.ishl X105.here hx rfl (hb hby own_d_jdk_52_m5_45) rfl ?_
    refine XS.aloadN X105.here hx rfl (hb hby own_d_jdk_52_m5_46) rfl rfl ?_
    refine XS.iloadN X105.here hx rfl (hb hby own_d_jdk_52_m5_47) rfl ?_
    exact k)
  have hi2 : x103 = Int32.ofNat (2 * ps.length + 1) := by rw [hx103, hi1, own_succ32]
  have hjn106 : (x103).toNatClampNeg = (2 * ps.length + 1) := (show _ = 2 * ps.length + 1 by rw [hi2, own_n32 (by omega)])
  obtain ⟨cl106, Ar106, q106, S106, M106, H106, G106⟩ := id hV
  have hin106 : ¬ (x103 < 0 ∨ cl106.slots.size ≤ (x103).toNatClampNeg) := own_in S106 (by rw [hi2]; exact own_neg32 (by omega)) hjn106 (by rw [own_n32 (by omega)]; omega)
  refine own_to (V := T105.setTop (mkF m 49 #[.val (.ref oa), .val (.int x103)] [(.int (StrChars.hi8 cc)), (.int (((StrChars.lo8 cc) &&& (255 : Int32)) <<< ((0 : Int32) &&& 31)))])) ?_ (fun t k => X105.baloadBytes hx (j := x103) (v := (.int (StrChars.hi8 cc))) (by rw [e105]; exact Ar106.1) (State.isArrayOf_alike hZ.alike Ar106.2.1) Ar106.2.2 hin106 (Has.at H106 hin106 (by rw [hjn106]; exact (by rw [hcs]; exact own_wbHi ps qs cc _))) (g := (mkF m 48 #[.val (.ref oa), .val (.int x103)] [(.int x103), (.ref oa), (.int (((StrChars.lo8 cc) &&& (255 : Int32)) <<< ((0 : Int32) &&& 31)))])) rfl rfl (hb hby own_d_jdk_52_m5_48) t k)
  refine own_to (V := T105.setTop (mkF m 53 #[.val (.ref oa), .val (.int x103)] [(.int ((StrChars.hi8 cc) &&& (255 : Int32))), (.int (((StrChars.lo8 cc) &&& (255 : Int32)) <<< ((0 : Int32) &&& 31)))])) ?_ fun t k => (by
    refine XS.sipush X105.here hx rfl (hb hby own_d_jdk_52_m5_49) ?_
    refine XS.iand X105.here hx rfl (hb hby own_d_jdk_52_m5_52) rfl ?_
    exact k)
  obtain ⟨T107, X107, e107, st107⟩ := getS2 X105 hx hZ hown (host := "") (Or.inl (hw _ (List.mem_of_getElem? (i := 44) rfl))) Via.refl e105 (uO3.ext X00.2) (g := (mkF m 53 #[.val (.ref oa), .val (.int x103)] [(.int ((StrChars.hi8 cc) &&& (255 : Int32))), (.int (((StrChars.lo8 cc) &&& (255 : Int32)) <<< ((0 : Int32) &&& 31)))])) rfl (hb hby own_d_jdk_52_m5_53)
  refine own_to (V := T107.setTop (mkF m 56 #[.val (.ref oa), .val (.int x103)] [(.int (8 : Int32)), (.int ((StrChars.hi8 cc) &&& (255 : Int32))), (.int (((StrChars.lo8 cc) &&& (255 : Int32)) <<< ((0 : Int32) &&& 31)))])) ?_ st107
  obtain ⟨c108, hc108⟩ : ∃ z : Int32, z = (((((StrChars.lo8 cc) &&& (255 : Int32)) <<< ((0 : Int32) &&& 31)) ||| (((StrChars.hi8 cc) &&& (255 : Int32)) <<< ((8 : Int32) &&& 31))).toUInt32.toUInt16.toUInt32.toInt32) := ⟨_, rfl⟩
  have rc_c108 : ¬ c108 < 0 ∧ ¬ (65535 : Int32) < c108 := by rw [hc108]; exact own_i2c_rng _
  refine own_to (V := T107.setTop (mkF m 59 #[.val (.ref oa), .val (.int x103)] [(.int c108)])) ?_ fun t k => (by
    first | rw [hc108] at k | skip
    refine XS.ishl X107.here hx rfl (hb hby own_d_jdk_52_m5_56) rfl ?_
    refine XS.ior X107.here hx rfl (hb hby own_d_jdk_52_m5_57) rfl ?_
    refine XS.i2c X107.here hx rfl (hb hby own_d_jdk_52_m5_58) rfl ?_
    exact k)
  exact own_retN X107 hx (t := .char) (w := c108) hret (by decide) (own_narC rc_c108) hlk (hb hby own_d_jdk_52_m5_59) (by rw [e107]; exact (⟨(by rw [hc108]; exact congrArg (fun q => some (Value.int q)) (StrChars.pair_says hcc.1 hcc.2)), N0, KK0⟩)) (by decide) (by decide)
def own_Qcmp3 (Z : State) (ob : Addr) (kC : ClassId) (cs : List Int32) (h0 : Heap) (n0 : Nat) (v : Option Value) (h : Heap) (L : List Loc) : Prop := (∃ (od : Addr) (kd : ClassId), v = some (.ref od) ∧ Fr n0 L ∧ Keep h0 h [] ∧ (h0.size ≤ od) ∧ (∀ c ∈ cs, ¬ (255 : Int32) < c) ∧ (Arv Z h od kd .byte (Int32.ofNat cs.length) (cs.map own_loV) (.int (0 : Int32)))) ∨ (∃ (od : Addr) (kd : ClassId), v = some (.ref od) ∧ Fr n0 L ∧ Keep h0 h [] ∧ (h0.size ≤ od) ∧ (∃ c ∈ cs, (255 : Int32) < c) ∧ (Arv Z h od kd .byte (Int32.ofNat (2 * cs.length)) (StrChars.Road.wideBytes cs) (.int (0 : Int32))))
theorem own_ef_cmp3 (m : MethodId) (ob : Addr) (cs : List Int32)  : entryFrame m #[(.ref ob), (.int (0 : Int32)), (.int (Int32.ofNat cs.length))] 6 = mkF m 0 #[.val (.ref ob), .val (.int (0 : Int32)), .val (.int (Int32.ofNat cs.length)), .unset, .unset, .unset] [] := by first | (simp [entryFrame, mkF, argsToLocals, Value.category]; done) | rfl
set_option maxRecDepth 65536 in
set_option maxHeartbeats 40000000 in
theorem own_rmcmp3 (l : Launch) (Z : State) (a0 : Array Value) (hw : ∀ d ∈ tables_1, d.before a0 Z = true) (hst : own_St Z) (ws : List Jvm.Cond) (ob : Addr) (kC : ClassId) (cs : List Int32) (h0 : Heap) (n0 : Nat) (X00 : Old Z n0 h0) (hV : Arv Z h0 ob kC .char (Int32.ofNat cs.length) (cs.map Value.int) (.int (0 : Int32))) (hB : ∀ c ∈ cs, ¬ c < 0 ∧ ¬ (65535 : Int32) < c) (hl : cs.length ≤ 3) :
    MetFree l (⟨"java/lang/StringUTF16", "compress", "([CII)[B"⟩ : MethodName) (head1 (Jvm.Cond.code (⟨"java/lang/StringUTF16", "compress", "([CII)[B"⟩ : MethodName) jdk_52_method_16_code 6 (Option.some (Jvm.ClassFile.FieldType.array Jvm.ClassFile.FieldType.byte)) :: ws) ({ frames := 4, cells := 2, slots := 9, locals := 56 } : Room)) (fun a U => a = #[(.ref ob), (.int (0 : Int32)), (.int (Int32.ofNat cs.length))] ∧ Z.Warmed39 U.vm ∧ U.heap = h0) (fun _ _ _ _ _ => True) (fun _ U o U' => ∃ v L, o = .returned v ∧ own_Qcmp3 Z ob kC cs h0 n0 v U'.heap L ∧ FrameEnd U o U' L ({ frames := 4, cells := 2, slots := 9, locals := 56 } : Room).cells ({ frames := 4, cells := 2, slots := 9, locals := 56 } : Room).slots) := by
  refine MetFree.of_bodySF (plainFor_of_name own_pn0) hisR ?_
  intro p e s m args below meth c s₁ Bd hml0 hP hK
  obtain ⟨rfl, hZ, hh⟩ := hP
  have hx := Bd.exec
  have hby := Bd.bytes
  have hret := Bd.returns
  have hlk : meth.locks = false := BodyLoose.notSynchronized Bd
  have hml : c.maxLocals = 6 := hml0
  have hown : s.vm.findClass "java/lang/StringUTF16" = some m.cls := findClass_of_methodNamed Bd.named
  have hnm := (name_of_methodNamed Bd.named Bd.method).1
  have X0 : Stand p l e ({ frames := 4, cells := 2, slots := 9, locals := 56 } : Room) s m #[(.ref ob), (.int (0 : Int32)), (.int (Int32.ofNat cs.length))] below meth c s₁ [] 0 0 := Stand.of_body Bd
  have e0 : s₁.heap = h0 := by rw [← hh, Bd.state]; rfl
  have N0 := Fr.nil n0
  have KK0 : Keep h0 h0 [] := Keep.refl h0 _
  refine own_start (own_Qcmp3 Z ob kC cs h0 n0) ?_
  refine own_to (V := s₁.setTop (mkF m 0 #[.val (.ref ob), .val (.int (0 : Int32)), .val (.int (Int32.ofNat cs.length)), .unset, .unset, .unset] [])) ?_ (fun t k => castTop (own_ef_cmp3 m ob cs ) k)
  obtain ⟨⟨G1, O2, P5⟩, ⟨G3, O4, rG3⟩, ⟨uO1, uO2, uO3⟩, -⟩ := id hst
  refine own_to (V := s₁.setTop (mkF m 1 #[.val (.ref ob), .val (.int (0 : Int32)), .val (.int (Int32.ofNat cs.length)), .unset, .unset, .unset] [(.int (Int32.ofNat cs.length))])) ?_ fun t k => (by
    refine XS.iloadN X0.here hx rfl (hb hby own_d_jdk_52_m16_0) rfl ?_
    exact k)
  obtain ⟨T101, h101, k101, X101, e101, E101, A101, st101⟩ := newP X0 hx hZ (hw _ (List.mem_of_getElem? (i := 25) rfl)) e0 (g := (mkF m 1 #[.val (.ref ob), .val (.int (0 : Int32)), .val (.int (Int32.ofNat cs.length)), .unset, .unset, .unset] [(.int (Int32.ofNat cs.length))])) rfl (hb hby own_d_jdk_52_m16_1) rfl (own_neg32 (by omega)) (cap := 3) (by rw [own_n32 (by omega)]; omega) (by decide) (by decide) (by decide)
  obtain ⟨b101, g101⟩ : ∃ z, z = h0.size := ⟨_, rfl⟩
  rw [← g101] at A101 st101
  have Xo101 : Old Z n0 h101 := X00.ext E101
  have KK101 : Keep h0 h101 [] := KK0.ext E101
  have ge_b101 : n0 ≤ b101 := Nat.le_trans (own_ole X00) (Nat.le_of_eq g101.symm)
  have sz_b101 : h0.size ≤ b101 := Nat.le_trans KK0.1 (Nat.le_of_eq g101.symm)
  have V101 : Arv Z h101 b101 k101 .byte (Int32.ofNat cs.length) ([] : List Value) (.int (0 : Int32)) := Arv.new A101 (own_neg32 (by omega))
  refine own_to (V := T101.setTop (mkF m 3 #[.val (.ref ob), .val (.int (0 : Int32)), .val (.int (Int32.ofNat cs.length)), .unset, .unset, .unset] [(.ref b101)])) ?_ st101
  have hD0 : Arv Z h101 b101 k101 .byte (Int32.ofNat cs.length) (List.replicate cs.length (.int (0 : Int32))) (.int (0 : Int32)) := (V101).pad (pad_rep [] (.int (0 : Int32)) cs.length)
  refine own_to (V := T101.setTop (mkF m 9 #[.val (.ref ob), .val (.int (0 : Int32)), .val (.int (Int32.ofNat cs.length)), .val (.ref b101), .unset, .unset] [(.int (Int32.ofNat cs.length)), (.int (0 : Int32)), (.ref b101), (.int (0 : Int32)), (.ref ob)])) ?_ fun t k => (by
    refine XS.astoreN X101.here hx rfl (hb hby own_d_jdk_52_m16_3) rfl rfl (l' := #[.val (.ref ob), .val (.int (0 : Int32)), .val (.int (Int32.ofNat cs.length)), .val (.ref b101), .unset, .unset]) rfl ?_
    refine XS.aloadN X101.here hx rfl (hb hby own_d_jdk_52_m16_4) rfl rfl ?_
    refine XS.iloadN X101.here hx rfl (hb hby own_d_jdk_52_m16_5) rfl ?_
    refine XS.aloadN X101.here hx rfl (hb hby own_d_jdk_52_m16_6) rfl rfl ?_
    refine XS.iconst X101.here hx rfl (hb hby own_d_jdk_52_m16_7) ?_
    refine XS.iloadN X101.here hx rfl (hb hby own_d_jdk_52_m16_8) rfl ?_
    exact k)
  have F103 : Arv Z h101 ob kC .char (Int32.ofNat cs.length) (cs.map Value.int) (.int (0 : Int32)) := (hV.ext E101)
  obtain ⟨_, _, ⟨T102, L102, k102, n102⟩, -, X102, ⟨Lc102, hQ102, l102, y102, z102⟩, st102⟩ := Jvm.LawKit.callS X101 hx (y := (⟨"java/lang/StringUTF16", "compress", "([CI[BII)I"⟩ : MethodName)) hown (mvT hZ (hw _ (List.mem_of_getElem? (i := 26) rfl))) (mvT hZ (hw _ (List.mem_of_getElem? (i := 27) rfl))) (mvT hZ (hw _ (List.mem_of_getElem? (i := 23) rfl))) (mvT hZ (hw _ (List.mem_of_getElem? (i := 28) rfl))) (by decide) (backOf (W := 0) (own_rmcmp5 l Z a0 hw hst [] ob b101 kC k101 cs h101 n0 Xo101 F103 hD0 (Nat.ne_of_lt (Nat.lt_of_lt_of_le hV.lt (Nat.le_of_eq g101.symm))) ge_b101 hB hl) hZ (hw _ (List.mem_of_getElem? (i := 28) rfl)) (hw _ (List.mem_of_getElem? (i := 23) rfl)) (by decide) (by decide)) (g := (mkF m 9 #[.val (.ref ob), .val (.int (0 : Int32)), .val (.int (Int32.ofNat cs.length)), .val (.ref b101), .unset, .unset] [(.int (Int32.ofNat cs.length)), (.int (0 : Int32)), (.ref b101), (.int (0 : Int32)), (.ref ob)])) rfl (by rw [hml]; rfl) (argsL := [(.ref ob), (.int (0 : Int32)), (.ref b101), (.int (0 : Int32)), (.int (Int32.ofNat cs.length))]) (rest := []) (lenOf own_pd3 rfl) rfl (by show 2 * 0 + _ ≤ _; exact Nat.le_of_eq rfl) (hb hby own_d_jdk_52_m16_9) (fun _ _ => ⟨rfl, e101, (by decide : 1 + 0 ≤ _), (by decide : 3 + 0 ≤ _)⟩)
  dsimp only [Pt.U, Pt.locs, Pt.cells, Pt.slots] at X102 l102 y102 z102 st102 hQ102
  subst l102 y102 z102
  rcases hQ102 with ⟨hv102, N102q, K102, g102_0, g102_1⟩ | ⟨ps102b, cc102b, qs102b, hv102, N102q, K102, g102_0, g102_1⟩
  · skip
    subst hv102
    obtain ⟨h102, e102⟩ : ∃ z, T102.heap = z := ⟨_, rfl⟩
    rw [e102] at K102 g102_1
    have Xo102 : Old Z n0 h102 := Xo101.keep K102 (allS ge_b101 all0)
    have KK102 : Keep h0 h102 [] := KK101.trans K102 (allS (Or.inr sz_b101) all0)
    have N102 := Fr.app N0 N102q
    refine own_to (V := T102.setTop (mkF m 12 #[.val (.ref ob), .val (.int (0 : Int32)), .val (.int (Int32.ofNat cs.length)), .val (.ref b101), .unset, .unset] [(.int (Int32.ofNat cs.length))])) ?_ st102
    refine own_to (V := T102.setTop (mkF m 58 #[.val (.ref ob), .val (.int (0 : Int32)), .val (.int (Int32.ofNat cs.length)), .val (.ref b101), .val (.int (Int32.ofNat cs.length)), .unset] [(.ref b101)])) ?_ fun t k => (by
      refine XS.istore X102.here hx rfl (hb hby own_d_jdk_52_m16_12) rfl (l' := #[.val (.ref ob), .val (.int (0 : Int32)), .val (.int (Int32.ofNat cs.length)), .val (.ref b101), .val (.int (Int32.ofNat cs.length)), .unset]) rfl ?_
      refine XS.iload X102.here hx rfl (hb hby own_d_jdk_52_m16_14) rfl ?_
      refine XS.iloadN X102.here hx rfl (hb hby own_d_jdk_52_m16_16) rfl ?_
      refine XS.icmpYes X102.here hx rfl (pc0 := 17) (pc' := 57) rfl (hb hby own_d_jdk_52_m16_17) rfl (teq (rfl : (Int32.ofNat cs.length) = (Int32.ofNat cs.length))).1 (by decide) (by decide) ?_
      refine XS.aloadN X102.here hx rfl (hb hby own_d_jdk_52_m16_57) rfl rfl ?_
      exact k)
    exact own_retR X102 hx hret (by decide) rfl hlk (hb hby own_d_jdk_52_m16_58) (by rw [e102]; exact (Or.inl ⟨b101, k101, rfl, N102, KK102, sz_b101, g102_0, g102_1⟩)) (by decide) (by decide)
  · skip
    subst hv102
    obtain ⟨h102, e102⟩ : ∃ z, T102.heap = z := ⟨_, rfl⟩
    rw [e102] at K102
    have Xo102 : Old Z n0 h102 := Xo101.keep K102 (allS ge_b101 all0)
    have KK102 : Keep h0 h102 [] := KK101.trans K102 (allS (Or.inr sz_b101) all0)
    have N102 := Fr.app N0 N102q
    refine own_to (V := T102.setTop (mkF m 12 #[.val (.ref ob), .val (.int (0 : Int32)), .val (.int (Int32.ofNat cs.length)), .val (.ref b101), .unset, .unset] [(.int (Int32.ofNat ps102b.length))])) ?_ st102
    refine own_to (V := T102.setTop (mkF m 23 #[.val (.ref ob), .val (.int (0 : Int32)), .val (.int (Int32.ofNat cs.length)), .val (.ref b101), .val (.int (Int32.ofNat ps102b.length)), .unset] [(.int (Int32.ofNat cs.length)), (.int (0 : Int32)), (.ref ob)])) ?_ fun t k => (by
      refine XS.istore X102.here hx rfl (hb hby own_d_jdk_52_m16_12) rfl (l' := #[.val (.ref ob), .val (.int (0 : Int32)), .val (.int (Int32.ofNat cs.length)), .val (.ref b101), .val (.int (Int32.ofNat ps102b.length)), .unset]) rfl ?_
      refine XS.iload X102.here hx rfl (hb hby own_d_jdk_52_m16_14) rfl ?_
      refine XS.iloadN X102.here hx rfl (hb hby own_d_jdk_52_m16_16) rfl ?_
      refine XS.icmpNo X102.here hx rfl (hb hby own_d_jdk_52_m16_17) rfl (feq (own_ne32 (by have := congrArg List.length g102_0; simp at this; omega) (by omega) (by have := congrArg List.length g102_0; simp at this; omega) : ¬ ((Int32.ofNat ps102b.length) = (Int32.ofNat cs.length)))).1 ?_
      refine XS.aloadN X102.here hx rfl (hb hby own_d_jdk_52_m16_20) rfl rfl ?_
      refine XS.iloadN X102.here hx rfl (hb hby own_d_jdk_52_m16_21) rfl ?_
      refine XS.iloadN X102.here hx rfl (hb hby own_d_jdk_52_m16_22) rfl ?_
      exact k)
    have F105 : Arv Z h102 ob kC .char (Int32.ofNat cs.length) (cs.map Value.int) (.int (0 : Int32)) := (F103.keep K102 (own_nmS (Nat.ne_of_lt (Nat.lt_of_lt_of_le hV.lt (Nat.le_of_eq g101.symm))) own_nm0))
    obtain ⟨_, _, ⟨T104, L104, k104, n104⟩, -, X104, ⟨Lc104, hQ104, l104, y104, z104⟩, st104⟩ := Jvm.LawKit.callS X102 hx (y := (⟨"java/lang/StringUTF16", "toBytes", "([CII)[B"⟩ : MethodName)) hown (mvT hZ (hw _ (List.mem_of_getElem? (i := 29) rfl))) (mvT hZ (hw _ (List.mem_of_getElem? (i := 30) rfl))) (mvT hZ (hw _ (List.mem_of_getElem? (i := 23) rfl))) (mvT hZ (hw _ (List.mem_of_getElem? (i := 31) rfl))) (by decide) (backOf (W := 0) (own_rmtob2 l Z a0 hw hst [] ob kC cs h102 n0 Xo102 F105 hB hl) hZ (hw _ (List.mem_of_getElem? (i := 31) rfl)) (hw _ (List.mem_of_getElem? (i := 23) rfl)) (by decide) (by decide)) (g := (mkF m 23 #[.val (.ref ob), .val (.int (0 : Int32)), .val (.int (Int32.ofNat cs.length)), .val (.ref b101), .val (.int (Int32.ofNat ps102b.length)), .unset] [(.int (Int32.ofNat cs.length)), (.int (0 : Int32)), (.ref ob)])) rfl (by rw [hml]; rfl) (argsL := [(.ref ob), (.int (0 : Int32)), (.int (Int32.ofNat cs.length))]) (rest := []) (lenOf own_pd4 rfl) rfl (by show 2 * 0 + _ ≤ _; exact Nat.le_of_eq rfl) (hb hby own_d_jdk_52_m16_23) (fun _ _ => ⟨rfl, e102, (by decide : 1 + 1 ≤ _), (by decide : 3 + 6 ≤ _)⟩)
    dsimp only [Pt.U, Pt.locs, Pt.cells, Pt.slots] at X104 l104 y104 z104 st104 hQ104
    subst l104 y104 z104
    obtain ⟨od104, kd104, hv104, N104q, K104, g104_0, g104_1⟩ := hQ104
    subst hv104
    obtain ⟨h104, e104⟩ : ∃ z, T104.heap = z := ⟨_, rfl⟩
    rw [e104] at K104 g104_1
    have Xo104 : Old Z n0 h104 := Xo102.keep K104 all0
    have KK104 : Keep h0 h104 [] := KK102.trans K104 all0
    have N104 := Fr.app N102 N104q
    have ge_od104 : n0 ≤ od104 := Nat.le_trans (own_ole Xo102) g104_0
    have sz_od104 : h0.size ≤ od104 := Nat.le_trans KK102.1 g104_0
    refine own_to (V := T104.setTop (mkF m 26 #[.val (.ref ob), .val (.int (0 : Int32)), .val (.int (Int32.ofNat cs.length)), .val (.ref b101), .val (.int (Int32.ofNat ps102b.length)), .unset] [(.ref od104)])) ?_ st104
    refine own_to (V := T104.setTop (mkF m 32 #[.val (.ref ob), .val (.int (0 : Int32)), .val (.int (Int32.ofNat cs.length)), .val (.ref b101), .val (.int (Int32.ofNat ps102b.length)), .val (.ref od104)] [(.int (Int32.ofNat ps102b.length)), (.ref od104)])) ?_ fun t k => (by
      refine XS.astore X104.here hx rfl (hb hby own_d_jdk_52_m16_26) rfl rfl (l' := #[.val (.ref ob), .val (.int (0 : Int32)), .val (.int (Int32.ofNat cs.length)), .val (.ref b101), .val (.int (Int32.ofNat ps102b.length)), .val (.ref od104)]) rfl ?_
      refine XS.aload X104.here hx rfl (hb hby own_d_jdk_52_m16_28) rfl rfl ?_
      refine XS.iload X104.here hx rfl (hb hby own_d_jdk_52_m16_30) rfl ?_
      exact k)
    obtain ⟨_, _, ⟨T106, L106, k106, n106⟩, -, X106, ⟨Lc106, hQ106, l106, y106, z106⟩, st106⟩ := Jvm.LawKit.callS X104 hx (y := (⟨"java/lang/StringUTF16", "getChar", "([BI)C"⟩ : MethodName)) hown (mvT hZ (hw _ (List.mem_of_getElem? (i := 45) rfl))) (mvT hZ (hw _ (List.mem_of_getElem? (i := 46) rfl))) (mvT hZ (hw _ (List.mem_of_getElem? (i := 23) rfl))) (mvT hZ (hw _ (List.mem_of_getElem? (i := 47) rfl))) (by decide) (backOf (W := 0) (own_rmgetc l Z a0 hw hst [] od104 kd104 cs ps102b cc102b qs102b h104 n0 Xo104 g104_1 g102_0 (hB _ (own_mem g102_0)) hl) hZ (hw _ (List.mem_of_getElem? (i := 47) rfl)) (hw _ (List.mem_of_getElem? (i := 23) rfl)) (by decide) (by decide)) (g := (mkF m 32 #[.val (.ref ob), .val (.int (0 : Int32)), .val (.int (Int32.ofNat cs.length)), .val (.ref b101), .val (.int (Int32.ofNat ps102b.length)), .val (.ref od104)] [(.int (Int32.ofNat ps102b.length)), (.ref od104)])) rfl (by rw [hml]; rfl) (argsL := [(.ref od104), (.int (Int32.ofNat ps102b.length))]) (rest := []) (lenOf own_pd5 rfl) rfl (by show 2 * 0 + _ ≤ _; exact Nat.le_of_eq rfl) (hb hby own_d_jdk_52_m16_32) (fun _ _ => ⟨rfl, e104, (by decide : 2 + 0 ≤ _), (by decide : 9 + 0 ≤ _)⟩)
    dsimp only [Pt.U, Pt.locs, Pt.cells, Pt.slots] at X106 l106 y106 z106 st106 hQ106
    subst l106 y106 z106
    obtain ⟨hv106, N106q, K106⟩ := hQ106
    subst hv106
    obtain ⟨h106, e106⟩ : ∃ z, T106.heap = z := ⟨_, rfl⟩
    rw [e106] at K106
    have Xo106 : Old Z n0 h106 := Xo104.keep K106 all0
    have KK106 : Keep h0 h106 [] := KK104.trans K106 all0
    have N106 := Fr.app N104 N106q
    refine own_to (V := T106.setTop (mkF m 35 #[.val (.ref ob), .val (.int (0 : Int32)), .val (.int (Int32.ofNat cs.length)), .val (.ref b101), .val (.int (Int32.ofNat ps102b.length)), .val (.ref od104)] [(.int cc102b)])) ?_ st106
    refine own_to (V := T106.setTop (mkF m 56 #[.val (.ref ob), .val (.int (0 : Int32)), .val (.int (Int32.ofNat cs.length)), .val (.ref b101), .val (.int (Int32.ofNat ps102b.length)), .val (.ref od104)] [(.ref od104)])) ?_ fun t k => (by
      refine XS.sipush X106.here hx rfl (hb hby own_d_jdk_52_m16_35) ?_
      refine XS.icmpYes X106.here hx rfl (pc0 := 38) (pc' := 54) rfl (hb hby own_d_jdk_52_m16_38) rfl (tlt (g102_1 : (255 : Int32) < cc102b)).2.2.1 (by decide) (by decide) ?_
      refine XS.aload X106.here hx rfl (hb hby own_d_jdk_52_m16_54) rfl rfl ?_
      exact k)
    have F107 : Arv Z h106 od104 kd104 .byte (Int32.ofNat (2 * cs.length)) (StrChars.Road.wideBytes cs) (.int (0 : Int32)) := (g104_1.keep K106 List.not_mem_nil)
    exact own_retR X106 hx hret (by decide) rfl hlk (hb hby own_d_jdk_52_m16_56) (by rw [e106]; exact (Or.inr (⟨od104, kd104, rfl, N106, KK106, sz_od104, ⟨_, own_mem g102_0, g102_1⟩, F107⟩))) (by decide) (by decide)
def own_Qcod0 (Z : State) (ob : Addr) (kd : ClassId) (cs : List Int32) (vs : List Value) (h0 : Heap) (n0 : Nat) (v : Option Value) (h : Heap) (L : List Loc) : Prop := (v = some (.int (0 : Int32)) ∧ Fr n0 L ∧ Keep h0 h [])
theorem own_ef_cod0 (m : MethodId) (ob : Addr) (cs : List Int32)  : entryFrame m #[(.ref ob), (.int (Int32.ofNat cs.length))] 2 = mkF m 0 #[.val (.ref ob), .val (.int (Int32.ofNat cs.length))] [] := by first | (simp [entryFrame, mkF, argsToLocals, Value.category]; done) | rfl
set_option maxRecDepth 65536 in
set_option maxHeartbeats 40000000 in
theorem own_rmcod0 (l : Launch) (Z : State) (a0 : Array Value) (hw : ∀ d ∈ tables_1, d.before a0 Z = true) (hst : own_St Z) (ws : List Jvm.Cond) (ob : Addr) (kd : ClassId) (cs : List Int32) (vs : List Value) (h0 : Heap) (n0 : Nat) (X00 : Old Z n0 h0) (hV : Arv Z h0 ob kd .byte (Int32.ofNat cs.length) vs (.int (0 : Int32))) :
    MetFree l (⟨"java/lang/StringUTF16", "coderFromArrayLen", "([BI)B"⟩ : MethodName) (head1 (Jvm.Cond.code (⟨"java/lang/StringUTF16", "coderFromArrayLen", "([BI)B"⟩ : MethodName) jdk_52_method_15_code 2 (Option.some Jvm.ClassFile.FieldType.byte) :: ws) ({ frames := 0, cells := 0, slots := 0, locals := 0 } : Room)) (fun a U => a = #[(.ref ob), (.int (Int32.ofNat cs.length))] ∧ Z.Warmed39 U.vm ∧ U.heap = h0) (fun _ _ _ _ _ => True) (fun _ U o U' => ∃ v L, o = .returned v ∧ own_Qcod0 Z ob kd cs vs h0 n0 v U'.heap L ∧ FrameEnd U o U' L ({ frames := 0, cells := 0, slots := 0, locals := 0 } : Room).cells ({ frames := 0, cells := 0, slots := 0, locals := 0 } : Room).slots) := by
  refine MetFree.of_bodySF (plainFor_of_name own_pn0) hisR ?_
  intro p e s m args below meth c s₁ Bd hml0 hP hK
  obtain ⟨rfl, hZ, hh⟩ := hP
  have hx := Bd.exec
  have hby := Bd.bytes
  have hret := Bd.returns
  have hlk : meth.locks = false := BodyLoose.notSynchronized Bd
  have hml : c.maxLocals = 2 := hml0
  have hown : s.vm.findClass "java/lang/StringUTF16" = some m.cls := findClass_of_methodNamed Bd.named
  have hnm := (name_of_methodNamed Bd.named Bd.method).1
  have X0 : Stand p l e ({ frames := 0, cells := 0, slots := 0, locals := 0 } : Room) s m #[(.ref ob), (.int (Int32.ofNat cs.length))] below meth c s₁ [] 0 0 := Stand.of_body Bd
  have e0 : s₁.heap = h0 := by rw [← hh, Bd.state]; rfl
  have N0 := Fr.nil n0
  have KK0 : Keep h0 h0 [] := Keep.refl h0 _
  refine own_start (own_Qcod0 Z ob kd cs vs h0 n0) ?_
  refine own_to (V := s₁.setTop (mkF m 0 #[.val (.ref ob), .val (.int (Int32.ofNat cs.length))] [])) ?_ (fun t k => castTop (own_ef_cod0 m ob cs ) k)
  obtain ⟨⟨G1, O2, P5⟩, ⟨G3, O4, rG3⟩, ⟨uO1, uO2, uO3⟩, -⟩ := id hst
  refine own_to (V := s₁.setTop (mkF m 2 #[.val (.ref ob), .val (.int (Int32.ofNat cs.length))] [(.ref ob), (.int (Int32.ofNat cs.length))])) ?_ fun t k => (by
    refine XS.iloadN X0.here hx rfl (hb hby own_d_jdk_52_m15_0) rfl ?_
    refine XS.aloadN X0.here hx rfl (hb hby own_d_jdk_52_m15_1) rfl rfl ?_
    exact k)
  obtain ⟨cl101, Ar101, q101, S101, M101, H101, G101⟩ := id hV
  refine own_to (V := s₁.setTop (mkF m 3 #[.val (.ref ob), .val (.int (Int32.ofNat cs.length))] [(.int (Int32.ofNat cs.length)), (.int (Int32.ofNat cs.length))])) ?_ (fun t k => X0.arraylength hx (by rw [e0]; exact Ar101.1) (State.isArrayOf_alike hZ.alike Ar101.2.1) (g := (mkF m 2 #[.val (.ref ob), .val (.int (Int32.ofNat cs.length))] [(.ref ob), (.int (Int32.ofNat cs.length))])) rfl rfl (hb hby own_d_jdk_52_m15_2) t (by rw [len_of S101 M101]; exact k))
  refine own_to (V := s₁.setTop (mkF m 8 #[.val (.ref ob), .val (.int (Int32.ofNat cs.length))] [(.int (((((Int32.ofNat cs.length) - (Int32.ofNat cs.length)).toUInt32 >>> ((31 : Int32) &&& 31).toUInt32).toInt32).toInt8.toInt32))])) ?_ fun t k => (by
    refine XS.isub X0.here hx rfl (hb hby own_d_jdk_52_m15_3) rfl ?_
    refine XS.bipush X0.here hx rfl (hb hby own_d_jdk_52_m15_4) ?_
    refine XS.iushr X0.here hx rfl (hb hby own_d_jdk_52_m15_6) rfl ?_
    refine XS.i2b X0.here hx rfl (hb hby own_d_jdk_52_m15_7) rfl ?_
    exact k)
  exact own_retN X0 hx (t := .byte) (w := (0 : Int32)) hret (by decide) (by rw [own_narB, own_cod0]) hlk (hb hby own_d_jdk_52_m15_8) (by rw [e0]; exact (⟨rfl, N0, KK0⟩)) (by decide) (by decide)
def own_Qcod1 (Z : State) (ob : Addr) (kd : ClassId) (cs : List Int32) (vs : List Value) (h0 : Heap) (n0 : Nat) (v : Option Value) (h : Heap) (L : List Loc) : Prop := (v = some (.int (1 : Int32)) ∧ Fr n0 L ∧ Keep h0 h [])
theorem own_ef_cod1 (m : MethodId) (ob : Addr) (cs : List Int32)  : entryFrame m #[(.ref ob), (.int (Int32.ofNat cs.length))] 2 = mkF m 0 #[.val (.ref ob), .val (.int (Int32.ofNat cs.length))] [] := by first | (simp [entryFrame, mkF, argsToLocals, Value.category]; done) | rfl
set_option maxRecDepth 65536 in
set_option maxHeartbeats 40000000 in
theorem own_rmcod1 (l : Launch) (Z : State) (a0 : Array Value) (hw : ∀ d ∈ tables_1, d.before a0 Z = true) (hst : own_St Z) (ws : List Jvm.Cond) (ob : Addr) (kd : ClassId) (cs : List Int32) (vs : List Value) (h0 : Heap) (n0 : Nat) (X00 : Old Z n0 h0) (hV : Arv Z h0 ob kd .byte (Int32.ofNat (2 * cs.length)) vs (.int (0 : Int32))) (hp : 0 < cs.length) (hl : cs.length ≤ 3) :
    MetFree l (⟨"java/lang/StringUTF16", "coderFromArrayLen", "([BI)B"⟩ : MethodName) (head1 (Jvm.Cond.code (⟨"java/lang/StringUTF16", "coderFromArrayLen", "([BI)B"⟩ : MethodName) jdk_52_method_15_code 2 (Option.some Jvm.ClassFile.FieldType.byte) :: ws) ({ frames := 0, cells := 0, slots := 0, locals := 0 } : Room)) (fun a U => a = #[(.ref ob), (.int (Int32.ofNat cs.length))] ∧ Z.Warmed39 U.vm ∧ U.heap = h0) (fun _ _ _ _ _ => True) (fun _ U o U' => ∃ v L, o = .returned v ∧ own_Qcod1 Z ob kd cs vs h0 n0 v U'.heap L ∧ FrameEnd U o U' L ({ frames := 0, cells := 0, slots := 0, locals := 0 } : Room).cells ({ frames := 0, cells := 0, slots := 0, locals := 0 } : Room).slots) := by
  refine MetFree.of_bodySF (plainFor_of_name own_pn0) hisR ?_
  intro p e s m args below meth c s₁ Bd hml0 hP hK
  obtain ⟨rfl, hZ, hh⟩ := hP
  have hx := Bd.exec
  have hby := Bd.bytes
  have hret := Bd.returns
  have hlk : meth.locks = false := BodyLoose.notSynchronized Bd
  have hml : c.maxLocals = 2 := hml0
  have hown : s.vm.findClass "java/lang/StringUTF16" = some m.cls := findClass_of_methodNamed Bd.named
  have hnm := (name_of_methodNamed Bd.named Bd.method).1
  have X0 : Stand p l e ({ frames := 0, cells := 0, slots := 0, locals := 0 } : Room) s m #[(.ref ob), (.int (Int32.ofNat cs.length))] below meth c s₁ [] 0 0 := Stand.of_body Bd
  have e0 : s₁.heap = h0 := by rw [← hh, Bd.state]; rfl
  have N0 := Fr.nil n0
  have KK0 : Keep h0 h0 [] := Keep.refl h0 _
  refine own_start (own_Qcod1 Z ob kd cs vs h0 n0) ?_
  refine own_to (V := s₁.setTop (mkF m 0 #[.val (.ref ob), .val (.int (Int32.ofNat cs.length))] [])) ?_ (fun t k => castTop (own_ef_cod1 m ob cs ) k)
  obtain ⟨⟨G1, O2, P5⟩, ⟨G3, O4, rG3⟩, ⟨uO1, uO2, uO3⟩, -⟩ := id hst
  refine own_to (V := s₁.setTop (mkF m 2 #[.val (.ref ob), .val (.int (Int32.ofNat cs.length))] [(.ref ob), (.int (Int32.ofNat cs.length))])) ?_ fun t k => (by
    refine XS.iloadN X0.here hx rfl (hb hby own_d_jdk_52_m15_0) rfl ?_
    refine XS.aloadN X0.here hx rfl (hb hby own_d_jdk_52_m15_1) rfl rfl ?_
    exact k)
  obtain ⟨cl101, Ar101, q101, S101, M101, H101, G101⟩ := id hV
  refine own_to (V := s₁.setTop (mkF m 3 #[.val (.ref ob), .val (.int (Int32.ofNat cs.length))] [(.int (Int32.ofNat (2 * cs.length))), (.int (Int32.ofNat cs.length))])) ?_ (fun t k => X0.arraylength hx (by rw [e0]; exact Ar101.1) (State.isArrayOf_alike hZ.alike Ar101.2.1) (g := (mkF m 2 #[.val (.ref ob), .val (.int (Int32.ofNat cs.length))] [(.ref ob), (.int (Int32.ofNat cs.length))])) rfl rfl (hb hby own_d_jdk_52_m15_2) t (by rw [len_of S101 M101]; exact k))
  refine own_to (V := s₁.setTop (mkF m 8 #[.val (.ref ob), .val (.int (Int32.ofNat cs.length))] [(.int (((((Int32.ofNat cs.length) - (Int32.ofNat (2 * cs.length))).toUInt32 >>> ((31 : Int32) &&& 31).toUInt32).toInt32).toInt8.toInt32))])) ?_ fun t k => (by
    refine XS.isub X0.here hx rfl (hb hby own_d_jdk_52_m15_3) rfl ?_
    refine XS.bipush X0.here hx rfl (hb hby own_d_jdk_52_m15_4) ?_
    refine XS.iushr X0.here hx rfl (hb hby own_d_jdk_52_m15_6) rfl ?_
    refine XS.i2b X0.here hx rfl (hb hby own_d_jdk_52_m15_7) rfl ?_
    exact k)
  exact own_retN X0 hx (t := .byte) (w := (1 : Int32)) hret (by decide) (by rw [own_narB, own_cod1 _ hp (by omega)]) hlk (hb hby own_d_jdk_52_m15_8) (by rw [e0]; exact (⟨rfl, N0, KK0⟩)) (by decide) (by decide)
def own_Qsin4 (Z : State) (ot : Addr) (ob : Addr) (kC : ClassId) (cs : List Int32) (h0 : Heap) (n0 : Nat) (v : Option Value) (h : Heap) (L : List Loc) : Prop := (∃ (ou : Addr), v = none ∧ Fr n0 L ∧ Keep h0 h [ot] ∧ (h0.size ≤ ou) ∧ (ot ≠ ou) ∧ (own_Str Z h ot ou cs))
theorem own_ef_sin4 (m : MethodId) (ot : Addr) (ob : Addr) (cs : List Int32)  : entryFrame m #[(.ref ot), (.ref ob), (.int (0 : Int32)), (.int (Int32.ofNat cs.length)), .null] 6 = mkF m 0 #[.val (.ref ot), .val (.ref ob), .val (.int (0 : Int32)), .val (.int (Int32.ofNat cs.length)), .val .null, .unset] [] := by first | (simp [entryFrame, mkF, argsToLocals, Value.category]; done) | rfl
set_option maxRecDepth 65536 in
set_option maxHeartbeats 40000000 in
theorem own_rmsin4 (l : Launch) (Z : State) (a0 : Array Value) (hw : ∀ d ∈ tables_1, d.before a0 Z = true) (hst : own_St Z) (ws : List Jvm.Cond) (ot : Addr) (ob : Addr) (kC : ClassId) (cs : List Int32) (h0 : Heap) (n0 : Nat) (X00 : Old Z n0 h0) (hE : Exa Z h0 ot "java/lang/String") (hF1 : Fld Z h0 ot "java/lang/String" "value" "[B" .null) (hF2 : Fld Z h0 ot "java/lang/String" "coder" "B" (.int (0 : Int32))) (hG : n0 ≤ ot) (hV : Arv Z h0 ob kC .char (Int32.ofNat cs.length) (cs.map Value.int) (.int (0 : Int32))) (hB : ∀ c ∈ cs, ¬ c < 0 ∧ ¬ (65535 : Int32) < c) (hl : cs.length ≤ 3) (hp : 0 < cs.length) :
    MetFree l (⟨"java/lang/String", "<init>", "([CIILjava/lang/Void;)V"⟩ : MethodName) (head1 (Jvm.Cond.code (⟨"java/lang/String", "<init>", "([CIILjava/lang/Void;)V"⟩ : MethodName) jdk_42_method_149_code 6 (Option.none : Option Jvm.ClassFile.FieldType) :: ws) ({ frames := 5, cells := 2, slots := 9, locals := 73 } : Room)) (fun a U => a = #[(.ref ot), (.ref ob), (.int (0 : Int32)), (.int (Int32.ofNat cs.length)), .null] ∧ Z.Warmed39 U.vm ∧ U.heap = h0) (fun _ _ _ _ _ => True) (fun _ U o U' => ∃ v L, o = .returned v ∧ own_Qsin4 Z ot ob kC cs h0 n0 v U'.heap L ∧ FrameEnd U o U' L ({ frames := 5, cells := 2, slots := 9, locals := 73 } : Room).cells ({ frames := 5, cells := 2, slots := 9, locals := 73 } : Room).slots) := by
  refine MetFree.of_bodySF (plainFor_of_name own_pn1) hisR ?_
  intro p e s m args below meth c s₁ Bd hml0 hP hK
  obtain ⟨rfl, hZ, hh⟩ := hP
  have hx := Bd.exec
  have hby := Bd.bytes
  have hret := Bd.returns
  have hlk : meth.locks = false := BodyLoose.notSynchronized Bd
  have hml : c.maxLocals = 6 := hml0
  have hown : s.vm.findClass "java/lang/String" = some m.cls := findClass_of_methodNamed Bd.named
  have hnm := (name_of_methodNamed Bd.named Bd.method).1
  have X0 : Stand p l e ({ frames := 5, cells := 2, slots := 9, locals := 73 } : Room) s m #[(.ref ot), (.ref ob), (.int (0 : Int32)), (.int (Int32.ofNat cs.length)), .null] below meth c s₁ [] 0 0 := Stand.of_body Bd
  have e0 : s₁.heap = h0 := by rw [← hh, Bd.state]; rfl
  have N0 := Fr.nil n0
  have KK0 : Keep h0 h0 [ot] := Keep.refl h0 _
  refine own_start (own_Qsin4 Z ot ob kC cs h0 n0) ?_
  refine own_to (V := s₁.setTop (mkF m 0 #[.val (.ref ot), .val (.ref ob), .val (.int (0 : Int32)), .val (.int (Int32.ofNat cs.length)), .val .null, .unset] [])) ?_ (fun t k => castTop (own_ef_sin4 m ot ob cs ) k)
  obtain ⟨⟨G1, O2, P5⟩, ⟨G3, O4, rG3⟩, ⟨uO1, uO2, uO3⟩, -⟩ := id hst
  refine own_to (V := s₁.setTop (mkF m 1 #[.val (.ref ot), .val (.ref ob), .val (.int (0 : Int32)), .val (.int (Int32.ofNat cs.length)), .val .null, .unset] [(.ref ot)])) ?_ fun t k => (by
    refine XS.aloadN X0.here hx rfl (hb hby own_d_jdk_42_m149_0) rfl rfl ?_
    exact k)
  obtain ⟨T101, X101, e101, st101⟩ := initO X0 hx hZ hown (hw _ (List.mem_of_getElem? (i := 17) rfl)) (hw _ (List.mem_of_getElem? (i := 18) rfl)) (hw _ (List.mem_of_getElem? (i := 19) rfl)) e0 (g := (mkF m 1 #[.val (.ref ot), .val (.ref ob), .val (.int (0 : Int32)), .val (.int (Int32.ofNat cs.length)), .val .null, .unset] [(.ref ot)])) rfl (by rw [hml]; rfl) rfl (hb hby own_d_jdk_42_m149_1) (by decide) (W := 0) (by show 2 * 0 + _ ≤ _; exact Nat.le_of_eq rfl) (by decide)
  refine own_to (V := T101.setTop (mkF m 4 #[.val (.ref ot), .val (.ref ob), .val (.int (0 : Int32)), .val (.int (Int32.ofNat cs.length)), .val .null, .unset] [])) ?_ st101
  refine own_to (V := T101.setTop (mkF m 27 #[.val (.ref ot), .val (.ref ob), .val (.int (0 : Int32)), .val (.int (Int32.ofNat cs.length)), .val .null, .unset] [])) ?_ fun t k => (by
    refine XS.iloadN X101.here hx rfl (hb hby own_d_jdk_42_m149_4) rfl ?_
    refine XS.ifYes X101.here hx rfl (pc0 := 5) (pc' := 27) rfl (hb hby own_d_jdk_42_m149_5) rfl ((if0 _ _).trans (feq (own_ne32 (b := 0) (by omega) (by decide) (by omega) : ¬ ((Int32.ofNat cs.length) = (0 : Int32)))).2) (by decide) (by decide) ?_
    exact k)
  obtain ⟨T102, X102, e102, st102⟩ := getS2 X101 hx hZ hown (host := "") (Or.inl (hw _ (List.mem_of_getElem? (i := 20) rfl))) Via.refl e101 (O2.ext X00.2) (g := (mkF m 27 #[.val (.ref ot), .val (.ref ob), .val (.int (0 : Int32)), .val (.int (Int32.ofNat cs.length)), .val .null, .unset] [])) rfl (hb hby own_d_jdk_42_m149_27)
  refine own_to (V := T102.setTop (mkF m 30 #[.val (.ref ot), .val (.ref ob), .val (.int (0 : Int32)), .val (.int (Int32.ofNat cs.length)), .val .null, .unset] [(.int G1)])) ?_ st102
  refine own_to (V := T102.setTop (mkF m 36 #[.val (.ref ot), .val (.ref ob), .val (.int (0 : Int32)), .val (.int (Int32.ofNat cs.length)), .val .null, .unset] [(.int (Int32.ofNat cs.length)), (.int (0 : Int32)), (.ref ob)])) ?_ fun t k => (by
    refine XS.ifNo X102.here hx rfl (hb hby own_d_jdk_42_m149_30) rfl ((if0 _ _).trans (feq (P5 : ¬ (G1 = (0 : Int32)))).1) ?_
    refine XS.aloadN X102.here hx rfl (hb hby own_d_jdk_42_m149_33) rfl rfl ?_
    refine XS.iloadN X102.here hx rfl (hb hby own_d_jdk_42_m149_34) rfl ?_
    refine XS.iloadN X102.here hx rfl (hb hby own_d_jdk_42_m149_35) rfl ?_
    exact k)
  obtain ⟨_, _, ⟨T103, L103, k103, n103⟩, -, X103, ⟨Lc103, hQ103, l103, y103, z103⟩, st103⟩ := Jvm.LawKit.callS X102 hx (y := (⟨"java/lang/StringUTF16", "compress", "([CII)[B"⟩ : MethodName)) hown (mvT hZ (hw _ (List.mem_of_getElem? (i := 21) rfl))) (mvT hZ (hw _ (List.mem_of_getElem? (i := 22) rfl))) (mvT hZ (hw _ (List.mem_of_getElem? (i := 23) rfl))) (mvT hZ (hw _ (List.mem_of_getElem? (i := 24) rfl))) (by decide) (backOf (W := 0) (own_rmcmp3 l Z a0 hw hst [] ob kC cs h0 n0 X00 hV hB hl) hZ (hw _ (List.mem_of_getElem? (i := 24) rfl)) (hw _ (List.mem_of_getElem? (i := 23) rfl)) (by decide) (by decide)) (g := (mkF m 36 #[.val (.ref ot), .val (.ref ob), .val (.int (0 : Int32)), .val (.int (Int32.ofNat cs.length)), .val .null, .unset] [(.int (Int32.ofNat cs.length)), (.int (0 : Int32)), (.ref ob)])) rfl (by rw [hml]; rfl) (argsL := [(.ref ob), (.int (0 : Int32)), (.int (Int32.ofNat cs.length))]) (rest := []) (lenOf own_pd4 rfl) rfl (by show 2 * 0 + _ ≤ _; exact Nat.le_of_eq rfl) (hb hby own_d_jdk_42_m149_36) (fun _ _ => ⟨rfl, e102, (by decide : 0 + 2 ≤ _), (by decide : 0 + 9 ≤ _)⟩)
  dsimp only [Pt.U, Pt.locs, Pt.cells, Pt.slots] at X103 l103 y103 z103 st103 hQ103
  subst l103 y103 z103
  rcases hQ103 with ⟨od103a, kd103a, hv103, N103q, K103, g103_0, g103_1, g103_2⟩ | ⟨od103b, kd103b, hv103, N103q, K103, g103_0, g103_1, g103_2⟩
  · skip
    subst hv103
    obtain ⟨h103, e103⟩ : ∃ z, T103.heap = z := ⟨_, rfl⟩
    rw [e103] at K103 g103_2
    have Xo103 : Old Z n0 h103 := X00.keep K103 all0
    have KK103 : Keep h0 h103 [ot] := KK0.trans K103 all0
    have N103 := Fr.app N0 N103q
    have ge_od103a : n0 ≤ od103a := Nat.le_trans (own_ole X00) g103_0
    have sz_od103a : h0.size ≤ od103a := Nat.le_trans KK0.1 g103_0
    refine own_to (V := T103.setTop (mkF m 39 #[.val (.ref ot), .val (.ref ob), .val (.int (0 : Int32)), .val (.int (Int32.ofNat cs.length)), .val .null, .unset] [(.ref od103a)])) ?_ st103
    refine own_to (V := T103.setTop (mkF m 45 #[.val (.ref ot), .val (.ref ob), .val (.int (0 : Int32)), .val (.int (Int32.ofNat cs.length)), .val .null, .val (.ref od103a)] [(.int (Int32.ofNat cs.length)), (.ref od103a), (.ref ot)])) ?_ fun t k => (by
      refine XS.astore X103.here hx rfl (hb hby own_d_jdk_42_m149_39) rfl rfl (l' := #[.val (.ref ot), .val (.ref ob), .val (.int (0 : Int32)), .val (.int (Int32.ofNat cs.length)), .val .null, .val (.ref od103a)]) rfl ?_
      refine XS.aloadN X103.here hx rfl (hb hby own_d_jdk_42_m149_41) rfl rfl ?_
      refine XS.aload X103.here hx rfl (hb hby own_d_jdk_42_m149_42) rfl rfl ?_
      refine XS.iloadN X103.here hx rfl (hb hby own_d_jdk_42_m149_44) rfl ?_
      exact k)
    obtain ⟨_, _, ⟨T104, L104, k104, n104⟩, -, X104, ⟨Lc104, hQ104, l104, y104, z104⟩, st104⟩ := Jvm.LawKit.callS X103 hx (y := (⟨"java/lang/StringUTF16", "coderFromArrayLen", "([BI)B"⟩ : MethodName)) hown (mvT hZ (hw _ (List.mem_of_getElem? (i := 48) rfl))) (mvT hZ (hw _ (List.mem_of_getElem? (i := 49) rfl))) (mvT hZ (hw _ (List.mem_of_getElem? (i := 23) rfl))) (mvT hZ (hw _ (List.mem_of_getElem? (i := 50) rfl))) (by decide) (backOf (W := 1) (own_rmcod0 l Z a0 hw hst [] od103a kd103a cs (cs.map own_loV) h103 n0 Xo103 g103_2) hZ (hw _ (List.mem_of_getElem? (i := 50) rfl)) (hw _ (List.mem_of_getElem? (i := 23) rfl)) (by decide) (by decide)) (g := (mkF m 45 #[.val (.ref ot), .val (.ref ob), .val (.int (0 : Int32)), .val (.int (Int32.ofNat cs.length)), .val .null, .val (.ref od103a)] [(.int (Int32.ofNat cs.length)), (.ref od103a), (.ref ot)])) rfl (by rw [hml]; rfl) (argsL := [(.ref od103a), (.int (Int32.ofNat cs.length))]) (rest := [(.ref ot)]) (lenOf own_pd6 rfl) rfl (by show 2 * 0 + _ ≤ _; exact Nat.le_of_eq rfl) (hb hby own_d_jdk_42_m149_45) (fun _ _ => ⟨rfl, e103, (by decide : 2 + 0 ≤ _), (by decide : 9 + 0 ≤ _)⟩)
    dsimp only [Pt.U, Pt.locs, Pt.cells, Pt.slots] at X104 l104 y104 z104 st104 hQ104
    subst l104 y104 z104
    obtain ⟨hv104, N104q, K104⟩ := hQ104
    subst hv104
    obtain ⟨h104, e104⟩ : ∃ z, T104.heap = z := ⟨_, rfl⟩
    rw [e104] at K104
    have Xo104 : Old Z n0 h104 := Xo103.keep K104 all0
    have KK104 : Keep h0 h104 [ot] := KK103.trans K104 all0
    have N104 := Fr.app N103 N104q
    refine own_to (V := T104.setTop (mkF m 48 #[.val (.ref ot), .val (.ref ob), .val (.int (0 : Int32)), .val (.int (Int32.ofNat cs.length)), .val .null, .val (.ref od103a)] [(.int (0 : Int32)), (.ref ot)])) ?_ st104
    have F105 : Exa Z h104 ot "java/lang/String" := ((hE.keep K103).keep K104)
    have F106 : Fld Z h104 ot "java/lang/String" "coder" "B" (.int (0 : Int32)) := ((hF2.keep K103 List.not_mem_nil).keep K104 List.not_mem_nil)
    obtain ⟨T107, h107, X107, e107, W107, st107⟩ := putF X104 hx hZ hown (host := "") (Or.inl (hw _ (List.mem_of_getElem? (i := 51) rfl))) Via.refl e104 F106 F105 (Or.inr ⟨(hw _ (List.mem_of_getElem? (i := 52) rfl)), rfl, hnm⟩) (hw _ (List.mem_of_getElem? (i := 7) rfl)) (ty := .byte) (by decide) rfl rfl (g := (mkF m 48 #[.val (.ref ot), .val (.ref ob), .val (.int (0 : Int32)), .val (.int (Int32.ofNat cs.length)), .val .null, .val (.ref od103a)] [(.int (0 : Int32)), (.ref ot)])) rfl rfl (hb hby own_d_jdk_42_m149_48)
    have Xo107 : Old Z n0 h107 := Xo104.wr W107 hG
    have KK107 : Keep h0 h107 [ot] := KK104.wr W107 (Or.inl (List.mem_of_getElem? (i := 0) rfl))
    have Fw107 : Fld Z h107 ot "java/lang/String" "coder" "B" (.int (0 : Int32)) := F106.same W107
    have N107 := Fr.snoc X107 N104 hG
    refine own_to (V := T107.setTop (mkF m 51 #[.val (.ref ot), .val (.ref ob), .val (.int (0 : Int32)), .val (.int (Int32.ofNat cs.length)), .val .null, .val (.ref od103a)] [])) ?_ st107
    refine own_to (V := T107.setTop (mkF m 54 #[.val (.ref ot), .val (.ref ob), .val (.int (0 : Int32)), .val (.int (Int32.ofNat cs.length)), .val .null, .val (.ref od103a)] [(.ref od103a), (.ref ot)])) ?_ fun t k => (by
      refine XS.aloadN X107.here hx rfl (hb hby own_d_jdk_42_m149_51) rfl rfl ?_
      refine XS.aload X107.here hx rfl (hb hby own_d_jdk_42_m149_52) rfl rfl ?_
      exact k)
    have F108 : Exa Z h107 ot "java/lang/String" := (F105.wr W107)
    have F109 : Fld Z h107 ot "java/lang/String" "value" "[B" .null := (((hF1.keep K103 List.not_mem_nil).keep K104 List.not_mem_nil).other W107 (Or.inr (slot_ne (Or.inr (hw _ (List.mem_of_getElem? (i := 54) rfl))) (Or.inr (hw _ (List.mem_of_getElem? (i := 52) rfl))) (by decide) (t := (.array .byte)) (t' := .byte) (by decide) (by decide))))
    obtain ⟨T110, h110, X110, e110, W110, st110⟩ := putF X107 hx hZ hown (host := "") (Or.inl (hw _ (List.mem_of_getElem? (i := 53) rfl))) Via.refl e107 F109 F108 (Or.inr ⟨(hw _ (List.mem_of_getElem? (i := 54) rfl)), rfl, hnm⟩) (hw _ (List.mem_of_getElem? (i := 7) rfl)) (ty := (.array .byte)) (by decide) rfl rfl (g := (mkF m 54 #[.val (.ref ot), .val (.ref ob), .val (.int (0 : Int32)), .val (.int (Int32.ofNat cs.length)), .val .null, .val (.ref od103a)] [(.ref od103a), (.ref ot)])) rfl rfl (hb hby own_d_jdk_42_m149_54)
    have Xo110 : Old Z n0 h110 := Xo107.wr W110 hG
    have KK110 : Keep h0 h110 [ot] := KK107.wr W110 (Or.inl (List.mem_of_getElem? (i := 0) rfl))
    have Fw110 : Fld Z h110 ot "java/lang/String" "value" "[B" (.ref od103a) := F109.same W110
    have N110 := Fr.snoc X110 N107 hG
    refine own_to (V := T110.setTop (mkF m 57 #[.val (.ref ot), .val (.ref ob), .val (.int (0 : Int32)), .val (.int (Int32.ofNat cs.length)), .val .null, .val (.ref od103a)] [])) ?_ st110
    have F112 : Exa Z h110 ot "java/lang/String" := (F108.wr W110)
    have F113 : Fld Z h110 ot "java/lang/String" "coder" "B" (.int (0 : Int32)) := (Fw107.other W110 (Or.inr (slot_ne (Or.inr (hw _ (List.mem_of_getElem? (i := 52) rfl))) (Or.inr (hw _ (List.mem_of_getElem? (i := 54) rfl))) (by decide) (t := .byte) (t' := (.array .byte)) (by decide) (by decide))))
    have F114 : Arv Z h110 od103a kd103a .byte (Int32.ofNat cs.length) (cs.map own_loV) (.int (0 : Int32)) := (((g103_2.keep K104 List.not_mem_nil).other W107 (Ne.symm (Nat.ne_of_lt (Nat.lt_of_lt_of_le hE.lt g103_0)))).other W110 (Ne.symm (Nat.ne_of_lt (Nat.lt_of_lt_of_le hE.lt g103_0))))
    have Fs111 : own_Str Z h110 ot od103a cs := own_mkStrC F112 Fw110 F113 F114 (Or.inl ⟨rfl, rfl, rfl, g103_1⟩) hB (by omega)
    exact own_retV X110 hx hret hlk (hb hby own_d_jdk_42_m149_57) (by rw [e110]; exact (⟨od103a, rfl, N110, KK110, sz_od103a, (Nat.ne_of_lt (Nat.lt_of_lt_of_le hE.lt g103_0)), Fs111⟩)) (by decide) (by decide)
  · skip
    subst hv103
    obtain ⟨h103, e103⟩ : ∃ z, T103.heap = z := ⟨_, rfl⟩
    rw [e103] at K103 g103_2
    have Xo103 : Old Z n0 h103 := X00.keep K103 all0
    have KK103 : Keep h0 h103 [ot] := KK0.trans K103 all0
    have N103 := Fr.app N0 N103q
    have ge_od103b : n0 ≤ od103b := Nat.le_trans (own_ole X00) g103_0
    have sz_od103b : h0.size ≤ od103b := Nat.le_trans KK0.1 g103_0
    refine own_to (V := T103.setTop (mkF m 39 #[.val (.ref ot), .val (.ref ob), .val (.int (0 : Int32)), .val (.int (Int32.ofNat cs.length)), .val .null, .unset] [(.ref od103b)])) ?_ st103
    refine own_to (V := T103.setTop (mkF m 45 #[.val (.ref ot), .val (.ref ob), .val (.int (0 : Int32)), .val (.int (Int32.ofNat cs.length)), .val .null, .val (.ref od103b)] [(.int (Int32.ofNat cs.length)), (.ref od103b), (.ref ot)])) ?_ fun t k => (by
      refine XS.astore X103.here hx rfl (hb hby own_d_jdk_42_m149_39) rfl rfl (l' := #[.val (.ref ot), .val (.ref ob), .val (.int (0 : Int32)), .val (.int (Int32.ofNat cs.length)), .val .null, .val (.ref od103b)]) rfl ?_
      refine XS.aloadN X103.here hx rfl (hb hby own_d_jdk_42_m149_41) rfl rfl ?_
      refine XS.aload X103.here hx rfl (hb hby own_d_jdk_42_m149_42) rfl rfl ?_
      refine XS.iloadN X103.here hx rfl (hb hby own_d_jdk_42_m149_44) rfl ?_
      exact k)
    obtain ⟨_, _, ⟨T115, L115, k115, n115⟩, -, X115, ⟨Lc115, hQ115, l115, y115, z115⟩, st115⟩ := Jvm.LawKit.callS X103 hx (y := (⟨"java/lang/StringUTF16", "coderFromArrayLen", "([BI)B"⟩ : MethodName)) hown (mvT hZ (hw _ (List.mem_of_getElem? (i := 48) rfl))) (mvT hZ (hw _ (List.mem_of_getElem? (i := 49) rfl))) (mvT hZ (hw _ (List.mem_of_getElem? (i := 23) rfl))) (mvT hZ (hw _ (List.mem_of_getElem? (i := 50) rfl))) (by decide) (backOf (W := 1) (own_rmcod1 l Z a0 hw hst [] od103b kd103b cs (StrChars.Road.wideBytes cs) h103 n0 Xo103 g103_2 hp hl) hZ (hw _ (List.mem_of_getElem? (i := 50) rfl)) (hw _ (List.mem_of_getElem? (i := 23) rfl)) (by decide) (by decide)) (g := (mkF m 45 #[.val (.ref ot), .val (.ref ob), .val (.int (0 : Int32)), .val (.int (Int32.ofNat cs.length)), .val .null, .val (.ref od103b)] [(.int (Int32.ofNat cs.length)), (.ref od103b), (.ref ot)])) rfl (by rw [hml]; rfl) (argsL := [(.ref od103b), (.int (Int32.ofNat cs.length))]) (rest := [(.ref ot)]) (lenOf own_pd6 rfl) rfl (by show 2 * 0 + _ ≤ _; exact Nat.le_of_eq rfl) (hb hby own_d_jdk_42_m149_45) (fun _ _ => ⟨rfl, e103, (by decide : 2 + 0 ≤ _), (by decide : 9 + 0 ≤ _)⟩)
    dsimp only [Pt.U, Pt.locs, Pt.cells, Pt.slots] at X115 l115 y115 z115 st115 hQ115
    subst l115 y115 z115
    obtain ⟨hv115, N115q, K115⟩ := hQ115
    subst hv115
    obtain ⟨h115, e115⟩ : ∃ z, T115.heap = z := ⟨_, rfl⟩
    rw [e115] at K115
    have Xo115 : Old Z n0 h115 := Xo103.keep K115 all0
    have KK115 : Keep h0 h115 [ot] := KK103.trans K115 all0
    have N115 := Fr.app N103 N115q
    refine own_to (V := T115.setTop (mkF m 48 #[.val (.ref ot), .val (.ref ob), .val (.int (0 : Int32)), .val (.int (Int32.ofNat cs.length)), .val .null, .val (.ref od103b)] [(.int (1 : Int32)), (.ref ot)])) ?_ st115
    have F116 : Exa Z h115 ot "java/lang/String" := ((hE.keep K103).keep K115)
    have F117 : Fld Z h115 ot "java/lang/String" "coder" "B" (.int (0 : Int32)) := ((hF2.keep K103 List.not_mem_nil).keep K115 List.not_mem_nil)
    obtain ⟨T118, h118, X118, e118, W118, st118⟩ := putF X115 hx hZ hown (host := "") (Or.inl (hw _ (List.mem_of_getElem? (i := 51) rfl))) Via.refl e115 F117 F116 (Or.inr ⟨(hw _ (List.mem_of_getElem? (i := 52) rfl)), rfl, hnm⟩) (hw _ (List.mem_of_getElem? (i := 7) rfl)) (ty := .byte) (by decide) rfl rfl (g := (mkF m 48 #[.val (.ref ot), .val (.ref ob), .val (.int (0 : Int32)), .val (.int (Int32.ofNat cs.length)), .val .null, .val (.ref od103b)] [(.int (1 : Int32)), (.ref ot)])) rfl rfl (hb hby own_d_jdk_42_m149_48)
    have Xo118 : Old Z n0 h118 := Xo115.wr W118 hG
    have KK118 : Keep h0 h118 [ot] := KK115.wr W118 (Or.inl (List.mem_of_getElem? (i := 0) rfl))
    have Fw118 : Fld Z h118 ot "java/lang/String" "coder" "B" (.int (1 : Int32)) := F117.same W118
    have N118 := Fr.snoc X118 N115 hG
    refine own_to (V := T118.setTop (mkF m 51 #[.val (.ref ot), .val (.ref ob), .val (.int (0 : Int32)), .val (.int (Int32.ofNat cs.length)), .val .null, .val (.ref od103b)] [])) ?_ st118
    refine own_to (V := T118.setTop (mkF m 54 #[.val (.ref ot), .val (.ref ob), .val (.int (0 : Int32)), .val (.int (Int32.ofNat cs.length)), .val .null, .val (.ref od103b)] [(.ref od103b), (.ref ot)])) ?_ fun t k => (by
      refine XS.aloadN X118.here hx rfl (hb hby own_d_jdk_42_m149_51) rfl rfl ?_
      refine XS.aload X118.here hx rfl (hb hby own_d_jdk_42_m149_52) rfl rfl ?_
      exact k)
    have F119 : Exa Z h118 ot "java/lang/String" := (F116.wr W118)
    have F120 : Fld Z h118 ot "java/lang/String" "value" "[B" .null := (((hF1.keep K103 List.not_mem_nil).keep K115 List.not_mem_nil).other W118 (Or.inr (slot_ne (Or.inr (hw _ (List.mem_of_getElem? (i := 54) rfl))) (Or.inr (hw _ (List.mem_of_getElem? (i := 52) rfl))) (by decide) (t := (.array .byte)) (t' := .byte) (by decide) (by decide))))
    obtain ⟨T121, h121, X121, e121, W121, st121⟩ := putF X118 hx hZ hown (host := "") (Or.inl (hw _ (List.mem_of_getElem? (i := 53) rfl))) Via.refl e118 F120 F119 (Or.inr ⟨(hw _ (List.mem_of_getElem? (i := 54) rfl)), rfl, hnm⟩) (hw _ (List.mem_of_getElem? (i := 7) rfl)) (ty := (.array .byte)) (by decide) rfl rfl (g := (mkF m 54 #[.val (.ref ot), .val (.ref ob), .val (.int (0 : Int32)), .val (.int (Int32.ofNat cs.length)), .val .null, .val (.ref od103b)] [(.ref od103b), (.ref ot)])) rfl rfl (hb hby own_d_jdk_42_m149_54)
    have Xo121 : Old Z n0 h121 := Xo118.wr W121 hG
    have KK121 : Keep h0 h121 [ot] := KK118.wr W121 (Or.inl (List.mem_of_getElem? (i := 0) rfl))
    have Fw121 : Fld Z h121 ot "java/lang/String" "value" "[B" (.ref od103b) := F120.same W121
    have N121 := Fr.snoc X121 N118 hG
    refine own_to (V := T121.setTop (mkF m 57 #[.val (.ref ot), .val (.ref ob), .val (.int (0 : Int32)), .val (.int (Int32.ofNat cs.length)), .val .null, .val (.ref od103b)] [])) ?_ st121
    have F123 : Exa Z h121 ot "java/lang/String" := (F119.wr W121)
    have F124 : Fld Z h121 ot "java/lang/String" "coder" "B" (.int (1 : Int32)) := (Fw118.other W121 (Or.inr (slot_ne (Or.inr (hw _ (List.mem_of_getElem? (i := 52) rfl))) (Or.inr (hw _ (List.mem_of_getElem? (i := 54) rfl))) (by decide) (t := .byte) (t' := (.array .byte)) (by decide) (by decide))))
    have F125 : Arv Z h121 od103b kd103b .byte (Int32.ofNat (2 * cs.length)) (StrChars.Road.wideBytes cs) (.int (0 : Int32)) := (((g103_2.keep K115 List.not_mem_nil).other W118 (Ne.symm (Nat.ne_of_lt (Nat.lt_of_lt_of_le hE.lt g103_0)))).other W121 (Ne.symm (Nat.ne_of_lt (Nat.lt_of_lt_of_le hE.lt g103_0))))
    have Fs122 : own_Str Z h121 ot od103b cs := own_mkStrC F123 Fw121 F124 F125 (Or.inr ⟨rfl, rfl, rfl, g103_1⟩) hB (by omega)
    exact own_retV X121 hx hret hlk (hb hby own_d_jdk_42_m149_57) (by rw [e121]; exact (⟨od103b, rfl, N121, KK121, sz_od103b, (Nat.ne_of_lt (Nat.lt_of_lt_of_le hE.lt g103_0)), Fs122⟩)) (by decide) (by decide)
def own_Qsini (Z : State) (ot : Addr) (ob : Addr) (kC : ClassId) (cs : List Int32) (h0 : Heap) (n0 : Nat) (v : Option Value) (h : Heap) (L : List Loc) : Prop := (∃ (ou : Addr), v = none ∧ Fr n0 L ∧ Keep h0 h [ot] ∧ (h0.size ≤ ou) ∧ (ot ≠ ou) ∧ (own_Str Z h ot ou cs))
theorem own_ef_sini (m : MethodId) (ot : Addr) (ob : Addr)  : entryFrame m #[(.ref ot), (.ref ob)] 2 = mkF m 0 #[.val (.ref ot), .val (.ref ob)] [] := by first | (simp [entryFrame, mkF, argsToLocals, Value.category]; done) | rfl
set_option maxRecDepth 65536 in
set_option maxHeartbeats 40000000 in
theorem own_rmsini (l : Launch) (Z : State) (a0 : Array Value) (hw : ∀ d ∈ tables_1, d.before a0 Z = true) (hst : own_St Z) (ws : List Jvm.Cond) (ot : Addr) (ob : Addr) (kC : ClassId) (cs : List Int32) (h0 : Heap) (n0 : Nat) (X00 : Old Z n0 h0) (hE : Exa Z h0 ot "java/lang/String") (hF1 : Fld Z h0 ot "java/lang/String" "value" "[B" .null) (hF2 : Fld Z h0 ot "java/lang/String" "coder" "B" (.int (0 : Int32))) (hG : n0 ≤ ot) (hV : Arv Z h0 ob kC .char (Int32.ofNat cs.length) (cs.map Value.int) (.int (0 : Int32))) (hB : ∀ c ∈ cs, ¬ c < 0 ∧ ¬ (65535 : Int32) < c) (hl : cs.length ≤ 3) (hp : 0 < cs.length) :
    MetFree l (⟨"java/lang/String", "<init>", "([C)V"⟩ : MethodName) (head1 (Jvm.Cond.code (⟨"java/lang/String", "<init>", "([C)V"⟩ : MethodName) jdk_42_method_3_code 2 (Option.none : Option Jvm.ClassFile.FieldType) :: ws) ({ frames := 6, cells := 2, slots := 9, locals := 90 } : Room)) (fun a U => a = #[(.ref ot), (.ref ob)] ∧ Z.Warmed39 U.vm ∧ U.heap = h0) (fun _ _ _ _ _ => True) (fun _ U o U' => ∃ v L, o = .returned v ∧ own_Qsini Z ot ob kC cs h0 n0 v U'.heap L ∧ FrameEnd U o U' L ({ frames := 6, cells := 2, slots := 9, locals := 90 } : Room).cells ({ frames := 6, cells := 2, slots := 9, locals := 90 } : Room).slots) := by
  refine MetFree.of_bodySF (plainFor_of_name own_pn1) hisR ?_
  intro p e s m args below meth c s₁ Bd hml0 hP hK
  obtain ⟨rfl, hZ, hh⟩ := hP
  have hx := Bd.exec
  have hby := Bd.bytes
  have hret := Bd.returns
  have hlk : meth.locks = false := BodyLoose.notSynchronized Bd
  have hml : c.maxLocals = 2 := hml0
  have hown : s.vm.findClass "java/lang/String" = some m.cls := findClass_of_methodNamed Bd.named
  have hnm := (name_of_methodNamed Bd.named Bd.method).1
  have X0 : Stand p l e ({ frames := 6, cells := 2, slots := 9, locals := 90 } : Room) s m #[(.ref ot), (.ref ob)] below meth c s₁ [] 0 0 := Stand.of_body Bd
  have e0 : s₁.heap = h0 := by rw [← hh, Bd.state]; rfl
  have N0 := Fr.nil n0
  have KK0 : Keep h0 h0 [ot] := Keep.refl h0 _
  refine own_start (own_Qsini Z ot ob kC cs h0 n0) ?_
  refine own_to (V := s₁.setTop (mkF m 0 #[.val (.ref ot), .val (.ref ob)] [])) ?_ (fun t k => castTop (own_ef_sini m ot ob ) k)
  obtain ⟨⟨G1, O2, P5⟩, ⟨G3, O4, rG3⟩, ⟨uO1, uO2, uO3⟩, -⟩ := id hst
  refine own_to (V := s₁.setTop (mkF m 4 #[.val (.ref ot), .val (.ref ob)] [(.ref ob), (.int (0 : Int32)), (.ref ob), (.ref ot)])) ?_ fun t k => (by
    refine XS.aloadN X0.here hx rfl (hb hby own_d_jdk_42_m3_0) rfl rfl ?_
    refine XS.aloadN X0.here hx rfl (hb hby own_d_jdk_42_m3_1) rfl rfl ?_
    refine XS.iconst X0.here hx rfl (hb hby own_d_jdk_42_m3_2) ?_
    refine XS.aloadN X0.here hx rfl (hb hby own_d_jdk_42_m3_3) rfl rfl ?_
    exact k)
  obtain ⟨cl101, Ar101, q101, S101, M101, H101, G101⟩ := id hV
  refine own_to (V := s₁.setTop (mkF m 5 #[.val (.ref ot), .val (.ref ob)] [(.int (Int32.ofNat cs.length)), (.int (0 : Int32)), (.ref ob), (.ref ot)])) ?_ (fun t k => X0.arraylength hx (by rw [e0]; exact Ar101.1) (State.isArrayOf_alike hZ.alike Ar101.2.1) (g := (mkF m 4 #[.val (.ref ot), .val (.ref ob)] [(.ref ob), (.int (0 : Int32)), (.ref ob), (.ref ot)])) rfl rfl (hb hby own_d_jdk_42_m3_4) t (by rw [len_of S101 M101]; exact k))
  refine own_to (V := s₁.setTop (mkF m 6 #[.val (.ref ot), .val (.ref ob)] [.null, (.int (Int32.ofNat cs.length)), (.int (0 : Int32)), (.ref ob), (.ref ot)])) ?_ fun t k => (by
    refine XS.aconstNull X0.here hx rfl (hb hby own_d_jdk_42_m3_5) ?_
    exact k)
  obtain ⟨_, _, ⟨T102, L102, k102, n102⟩, -, X102, ⟨Lc102, hQ102, l102, y102, z102⟩, st102⟩ := X0.specialBack hx (y := (⟨"java/lang/String", "<init>", "([CIILjava/lang/Void;)V"⟩ : MethodName)) rfl hown (mvT hZ (hw _ (List.mem_of_getElem? (i := 13) rfl))) (mvT hZ (hw _ (List.mem_of_getElem? (i := 14) rfl))) (mvT hZ (hw _ (List.mem_of_getElem? (i := 16) rfl))) (by decide) (backOf (W := 0) (own_rmsin4 l Z a0 hw hst [] ot ob kC cs h0 n0 X00 hE hF1 hF2 hG hV hB hl hp) hZ (hw _ (List.mem_of_getElem? (i := 16) rfl)) (hw _ (List.mem_of_getElem? (i := 8) rfl)) (by decide) (by decide)) (g := (mkF m 6 #[.val (.ref ot), .val (.ref ob)] [.null, (.int (Int32.ofNat cs.length)), (.int (0 : Int32)), (.ref ob), (.ref ot)])) rfl (by rw [hml]; rfl) (Steps.refl _) (a := ot) (argsL := [(.ref ob), (.int (0 : Int32)), (.int (Int32.ofNat cs.length)), .null]) (rest := []) (lenOf own_pd7 rfl) rfl (by show 2 * 0 + _ ≤ _; exact Nat.le_of_eq rfl) (hb hby own_d_jdk_42_m3_6) (fun _ _ => ⟨rfl, e0, (by decide : 0 + 2 ≤ _), (by decide : 0 + 9 ≤ _)⟩)
  dsimp only [Pt.U, Pt.locs, Pt.cells, Pt.slots] at X102 l102 y102 z102 st102 hQ102
  subst l102 y102 z102
  obtain ⟨ou102, hv102, N102q, K102, g102_0, g102_1, g102_2⟩ := hQ102
  subst hv102
  obtain ⟨h102, e102⟩ : ∃ z, T102.heap = z := ⟨_, rfl⟩
  rw [e102] at K102 g102_2
  have Xo102 : Old Z n0 h102 := X00.keep K102 (allS hG all0)
  have KK102 : Keep h0 h102 [ot] := KK0.trans K102 (allS (Or.inl (List.mem_of_getElem? (i := 0) rfl)) all0)
  have N102 := Fr.app N0 N102q
  have ge_ou102 : n0 ≤ ou102 := Nat.le_trans (own_ole X00) g102_0
  have sz_ou102 : h0.size ≤ ou102 := Nat.le_trans KK0.1 g102_0
  refine own_to (V := T102.setTop (mkF m 9 #[.val (.ref ot), .val (.ref ob)] [])) ?_ (fun t k => st102.trans k)
  exact own_retV X102 hx hret hlk (hb hby own_d_jdk_42_m3_9) (by rw [e102]; exact (⟨ou102, rfl, N102, KK102, sz_ou102, g102_1, g102_2⟩)) (by decide) (by decide)
def own_Qpci (Z : State) (wi : Int32) (wn : Int32) (gf : Value) (h0 : Heap) (n0 : Nat) (v : Option Value) (h : Heap) (L : List Loc) : Prop := (v = some (.int wi) ∧ Fr n0 L ∧ Keep h0 h [])
theorem own_ef_pci (m : MethodId) (wi : Int32) (wn : Int32) (gf : Value) (r0 : gf.isRef = true) : entryFrame m #[(.int wi), (.int wn), gf] 3 = mkF m 0 #[.val (.int wi), .val (.int wn), .val gf] [] := by first | (rcases ref_cases r0 with rfl | ⟨_, rfl⟩; all_goals first | (simp [entryFrame, mkF, argsToLocals, Value.category]; done) | rfl)
set_option maxRecDepth 65536 in
set_option maxHeartbeats 40000000 in
theorem own_rmpci (l : Launch) (Z : State) (a0 : Array Value) (hw : ∀ d ∈ tables_1, d.before a0 Z = true) (hst : own_St Z) (ws : List Jvm.Cond) (wi : Int32) (wn : Int32) (gf : Value) (h0 : Heap) (n0 : Nat) (X00 : Old Z n0 h0) (h1 : ¬ (wi < (0 : Int32))) (h2 : wi < wn) (hgf : gf.isRef = true) :
    MetFree l (⟨"jdk/internal/util/Preconditions", "checkIndex", "(IILjava/util/function/BiFunction;)I"⟩ : MethodName) (head1 (Jvm.Cond.code (⟨"jdk/internal/util/Preconditions", "checkIndex", "(IILjava/util/function/BiFunction;)I"⟩ : MethodName) jdk_41_method_11_code 3 (Option.some Jvm.ClassFile.FieldType.int) :: ws) ({ frames := 0, cells := 0, slots := 0, locals := 0 } : Room)) (fun a U => a = #[(.int wi), (.int wn), gf] ∧ Z.Warmed39 U.vm ∧ U.heap = h0) (fun _ _ _ _ _ => True) (fun _ U o U' => ∃ v L, o = .returned v ∧ own_Qpci Z wi wn gf h0 n0 v U'.heap L ∧ FrameEnd U o U' L ({ frames := 0, cells := 0, slots := 0, locals := 0 } : Room).cells ({ frames := 0, cells := 0, slots := 0, locals := 0 } : Room).slots) := by
  refine MetFree.of_bodySF (plainFor_of_name own_pn2) hisR ?_
  intro p e s m args below meth c s₁ Bd hml0 hP hK
  obtain ⟨rfl, hZ, hh⟩ := hP
  have hx := Bd.exec
  have hby := Bd.bytes
  have hret := Bd.returns
  have hlk : meth.locks = false := BodyLoose.notSynchronized Bd
  have hml : c.maxLocals = 3 := hml0
  have hown : s.vm.findClass "jdk/internal/util/Preconditions" = some m.cls := findClass_of_methodNamed Bd.named
  have hnm := (name_of_methodNamed Bd.named Bd.method).1
  have X0 : Stand p l e ({ frames := 0, cells := 0, slots := 0, locals := 0 } : Room) s m #[(.int wi), (.int wn), gf] below meth c s₁ [] 0 0 := Stand.of_body Bd
  have e0 : s₁.heap = h0 := by rw [← hh, Bd.state]; rfl
  have N0 := Fr.nil n0
  have KK0 : Keep h0 h0 [] := Keep.refl h0 _
  refine own_start (own_Qpci Z wi wn gf h0 n0) ?_
  refine own_to (V := s₁.setTop (mkF m 0 #[.val (.int wi), .val (.int wn), .val gf] [])) ?_ (fun t k => castTop (own_ef_pci m wi wn gf hgf) k)
  obtain ⟨⟨G1, O2, P5⟩, ⟨G3, O4, rG3⟩, ⟨uO1, uO2, uO3⟩, -⟩ := id hst
  refine own_to (V := s₁.setTop (mkF m 17 #[.val (.int wi), .val (.int wn), .val gf] [(.int wi)])) ?_ fun t k => (by
    refine XS.iloadN X0.here hx rfl (hb hby own_d_jdk_41_m11_0) rfl ?_
    refine XS.ifNo X0.here hx rfl (hb hby own_d_jdk_41_m11_1) rfl ((if0 _ _).trans (flt (h1 : ¬ (wi < (0 : Int32)))).1) ?_
    refine XS.iloadN X0.here hx rfl (hb hby own_d_jdk_41_m11_4) rfl ?_
    refine XS.iloadN X0.here hx rfl (hb hby own_d_jdk_41_m11_5) rfl ?_
    refine XS.icmpYes X0.here hx rfl (pc0 := 6) (pc' := 16) rfl (hb hby own_d_jdk_41_m11_6) rfl (tlt (h2 : wi < wn)).1 (by decide) (by decide) ?_
    refine XS.iloadN X0.here hx rfl (hb hby own_d_jdk_41_m11_16) rfl ?_
    exact k)
  exact own_retI X0 hx hret hlk (hb hby own_d_jdk_41_m11_17) (by rw [e0]; exact (⟨rfl, N0, KK0⟩)) (by decide) (by decide)
def own_Qsci (Z : State) (wi : Int32) (wn : Int32) (h0 : Heap) (n0 : Nat) (v : Option Value) (h : Heap) (L : List Loc) : Prop := (v = none ∧ Fr n0 L ∧ Keep h0 h [])
theorem own_ef_sci (m : MethodId) (wi : Int32) (wn : Int32)  : entryFrame m #[(.int wi), (.int wn)] 2 = mkF m 0 #[.val (.int wi), .val (.int wn)] [] := by first | (simp [entryFrame, mkF, argsToLocals, Value.category]; done) | rfl
set_option maxRecDepth 65536 in
set_option maxHeartbeats 40000000 in
theorem own_rmsci (l : Launch) (Z : State) (a0 : Array Value) (hw : ∀ d ∈ tables_1, d.before a0 Z = true) (hst : own_St Z) (ws : List Jvm.Cond) (wi : Int32) (wn : Int32) (h0 : Heap) (n0 : Nat) (X00 : Old Z n0 h0) (h1 : ¬ (wi < (0 : Int32))) (h2 : wi < wn) :
    MetFree l (⟨"java/lang/String", "checkIndex", "(II)V"⟩ : MethodName) (head1 (Jvm.Cond.code (⟨"java/lang/String", "checkIndex", "(II)V"⟩ : MethodName) jdk_42_method_155_code 2 (Option.none : Option Jvm.ClassFile.FieldType) :: ws) ({ frames := 1, cells := 0, slots := 0, locals := 14 } : Room)) (fun a U => a = #[(.int wi), (.int wn)] ∧ Z.Warmed39 U.vm ∧ U.heap = h0) (fun _ _ _ _ _ => True) (fun _ U o U' => ∃ v L, o = .returned v ∧ own_Qsci Z wi wn h0 n0 v U'.heap L ∧ FrameEnd U o U' L ({ frames := 1, cells := 0, slots := 0, locals := 14 } : Room).cells ({ frames := 1, cells := 0, slots := 0, locals := 14 } : Room).slots) := by
  refine MetFree.of_bodySF (plainFor_of_name own_pn1) hisR ?_
  intro p e s m args below meth c s₁ Bd hml0 hP hK
  obtain ⟨rfl, hZ, hh⟩ := hP
  have hx := Bd.exec
  have hby := Bd.bytes
  have hret := Bd.returns
  have hlk : meth.locks = false := BodyLoose.notSynchronized Bd
  have hml : c.maxLocals = 2 := hml0
  have hown : s.vm.findClass "java/lang/String" = some m.cls := findClass_of_methodNamed Bd.named
  have hnm := (name_of_methodNamed Bd.named Bd.method).1
  have X0 : Stand p l e ({ frames := 1, cells := 0, slots := 0, locals := 14 } : Room) s m #[(.int wi), (.int wn)] below meth c s₁ [] 0 0 := Stand.of_body Bd
  have e0 : s₁.heap = h0 := by rw [← hh, Bd.state]; rfl
  have N0 := Fr.nil n0
  have KK0 : Keep h0 h0 [] := Keep.refl h0 _
  refine own_start (own_Qsci Z wi wn h0 n0) ?_
  refine own_to (V := s₁.setTop (mkF m 0 #[.val (.int wi), .val (.int wn)] [])) ?_ (fun t k => castTop (own_ef_sci m wi wn ) k)
  obtain ⟨⟨G1, O2, P5⟩, ⟨G3, O4, rG3⟩, ⟨uO1, uO2, uO3⟩, -⟩ := id hst
  refine own_to (V := s₁.setTop (mkF m 2 #[.val (.int wi), .val (.int wn)] [(.int wn), (.int wi)])) ?_ fun t k => (by
    refine XS.iloadN X0.here hx rfl (hb hby own_d_jdk_42_m155_0) rfl ?_
    refine XS.iloadN X0.here hx rfl (hb hby own_d_jdk_42_m155_1) rfl ?_
    exact k)
  obtain ⟨T101, X101, e101, st101⟩ := getS2 X0 hx hZ hown (host := "") (Or.inl (hw _ (List.mem_of_getElem? (i := 113) rfl))) Via.refl e0 (O4.ext X00.2) (g := (mkF m 2 #[.val (.int wi), .val (.int wn)] [(.int wn), (.int wi)])) rfl (hb hby own_d_jdk_42_m155_2)
  refine own_to (V := T101.setTop (mkF m 5 #[.val (.int wi), .val (.int wn)] [G3, (.int wn), (.int wi)])) ?_ st101
  obtain ⟨_, _, ⟨T102, L102, k102, n102⟩, -, X102, ⟨Lc102, hQ102, l102, y102, z102⟩, st102⟩ := Jvm.LawKit.callS X101 hx (y := (⟨"jdk/internal/util/Preconditions", "checkIndex", "(IILjava/util/function/BiFunction;)I"⟩ : MethodName)) hown (mvT hZ (hw _ (List.mem_of_getElem? (i := 115) rfl))) (mvT hZ (hw _ (List.mem_of_getElem? (i := 116) rfl))) (mvT hZ (hw _ (List.mem_of_getElem? (i := 114) rfl))) (mvT hZ (hw _ (List.mem_of_getElem? (i := 117) rfl))) (by decide) (backOf (W := 0) (own_rmpci l Z a0 hw hst [] wi wn G3 h0 n0 X00 h1 h2 rG3) hZ (hw _ (List.mem_of_getElem? (i := 117) rfl)) (hw _ (List.mem_of_getElem? (i := 114) rfl)) (by decide) (by decide)) (g := (mkF m 5 #[.val (.int wi), .val (.int wn)] [G3, (.int wn), (.int wi)])) rfl (by rw [hml]; rfl) (argsL := [(.int wi), (.int wn), G3]) (rest := []) (lenOf own_pd8 rfl) rfl (by show 2 * 0 + _ ≤ _; exact Nat.le_of_eq rfl) (hb hby own_d_jdk_42_m155_5) (fun _ _ => ⟨rfl, e101, (by decide : 0 + 0 ≤ _), (by decide : 0 + 0 ≤ _)⟩)
  dsimp only [Pt.U, Pt.locs, Pt.cells, Pt.slots] at X102 l102 y102 z102 st102 hQ102
  subst l102 y102 z102
  obtain ⟨hv102, N102q, K102⟩ := hQ102
  subst hv102
  obtain ⟨h102, e102⟩ : ∃ z, T102.heap = z := ⟨_, rfl⟩
  rw [e102] at K102
  have Xo102 : Old Z n0 h102 := X00.keep K102 all0
  have KK102 : Keep h0 h102 [] := KK0.trans K102 all0
  have N102 := Fr.app N0 N102q
  refine own_to (V := T102.setTop (mkF m 8 #[.val (.int wi), .val (.int wn)] [(.int wi)])) ?_ st102
  refine own_to (V := T102.setTop (mkF m 9 #[.val (.int wi), .val (.int wn)] [])) ?_ fun t k => (by
    refine XS.pop X102.here hx rfl (hb hby own_d_jdk_42_m155_8) rfl rfl ?_
    exact k)
  exact own_retV X102 hx hret hlk (hb hby own_d_jdk_42_m155_9) (by rw [e102]; exact (⟨rfl, N102, KK102⟩)) (by decide) (by decide)
def own_Qlch (Z : State) (oa : Addr) (kd : ClassId) (cs : List Int32) (ps : List Int32) (cc : Int32) (qs : List Int32) (h0 : Heap) (n0 : Nat) (v : Option Value) (h : Heap) (L : List Loc) : Prop := (v = some (.int cc) ∧ Fr n0 L ∧ Keep h0 h [])
theorem own_ef_lch (m : MethodId) (oa : Addr) (ps : List Int32)  : entryFrame m #[(.ref oa), (.int (Int32.ofNat ps.length))] 2 = mkF m 0 #[.val (.ref oa), .val (.int (Int32.ofNat ps.length))] [] := by first | (simp [entryFrame, mkF, argsToLocals, Value.category]; done) | rfl
set_option maxRecDepth 65536 in
set_option maxHeartbeats 40000000 in
theorem own_rmlch (l : Launch) (Z : State) (a0 : Array Value) (hw : ∀ d ∈ tables_1, d.before a0 Z = true) (hst : own_St Z) (ws : List Jvm.Cond) (oa : Addr) (kd : ClassId) (cs : List Int32) (ps : List Int32) (cc : Int32) (qs : List Int32) (h0 : Heap) (n0 : Nat) (X00 : Old Z n0 h0) (hV : Arv Z h0 oa kd .byte (Int32.ofNat cs.length) (cs.map own_loV) (.int (0 : Int32))) (hcs : cs = ps ++ cc :: qs) (hcc : ¬ cc < 0 ∧ ¬ (65535 : Int32) < cc) (hlt : ¬ (255 : Int32) < cc) (hl : cs.length ≤ 3) :
    MetFree l (⟨"java/lang/StringLatin1", "charAt", "([BI)C"⟩ : MethodName) (head1 (Jvm.Cond.code (⟨"java/lang/StringLatin1", "charAt", "([BI)C"⟩ : MethodName) jdk_43_method_2_code 2 (Option.some Jvm.ClassFile.FieldType.char) :: ws) ({ frames := 2, cells := 0, slots := 0, locals := 27 } : Room)) (fun a U => a = #[(.ref oa), (.int (Int32.ofNat ps.length))] ∧ Z.Warmed39 U.vm ∧ U.heap = h0) (fun _ _ _ _ _ => True) (fun _ U o U' => ∃ v L, o = .returned v ∧ own_Qlch Z oa kd cs ps cc qs h0 n0 v U'.heap L ∧ FrameEnd U o U' L ({ frames := 2, cells := 0, slots := 0, locals := 27 } : Room).cells ({ frames := 2, cells := 0, slots := 0, locals := 27 } : Room).slots) := by
  refine MetFree.of_bodySF (plainFor_of_name own_pn3) hisR ?_
  intro p e s m args below meth c s₁ Bd hml0 hP hK
  obtain ⟨rfl, hZ, hh⟩ := hP
  have hx := Bd.exec
  have hby := Bd.bytes
  have hret := Bd.returns
  have hlk : meth.locks = false := BodyLoose.notSynchronized Bd
  have hml : c.maxLocals = 2 := hml0
  have hown : s.vm.findClass "java/lang/StringLatin1" = some m.cls := findClass_of_methodNamed Bd.named
  have hnm := (name_of_methodNamed Bd.named Bd.method).1
  have X0 : Stand p l e ({ frames := 2, cells := 0, slots := 0, locals := 27 } : Room) s m #[(.ref oa), (.int (Int32.ofNat ps.length))] below meth c s₁ [] 0 0 := Stand.of_body Bd
  have e0 : s₁.heap = h0 := by rw [← hh, Bd.state]; rfl
  have N0 := Fr.nil n0
  have KK0 : Keep h0 h0 [] := Keep.refl h0 _
  refine own_start (own_Qlch Z oa kd cs ps cc qs h0 n0) ?_
  refine own_to (V := s₁.setTop (mkF m 0 #[.val (.ref oa), .val (.int (Int32.ofNat ps.length))] [])) ?_ (fun t k => castTop (own_ef_lch m oa ps ) k)
  obtain ⟨⟨G1, O2, P5⟩, ⟨G3, O4, rG3⟩, ⟨uO1, uO2, uO3⟩, -⟩ := id hst
  have hlen : cs.length = ps.length + (qs.length + 1) := by rw [hcs]; simp
  refine own_to (V := s₁.setTop (mkF m 2 #[.val (.ref oa), .val (.int (Int32.ofNat ps.length))] [(.ref oa), (.int (Int32.ofNat ps.length))])) ?_ fun t k => (by
    refine XS.iloadN X0.here hx rfl (hb hby own_d_jdk_43_m2_0) rfl ?_
    refine XS.aloadN X0.here hx rfl (hb hby own_d_jdk_43_m2_1) rfl rfl ?_
    exact k)
  obtain ⟨cl101, Ar101, q101, S101, M101, H101, G101⟩ := id hV
  refine own_to (V := s₁.setTop (mkF m 3 #[.val (.ref oa), .val (.int (Int32.ofNat ps.length))] [(.int (Int32.ofNat cs.length)), (.int (Int32.ofNat ps.length))])) ?_ (fun t k => X0.arraylength hx (by rw [e0]; exact Ar101.1) (State.isArrayOf_alike hZ.alike Ar101.2.1) (g := (mkF m 2 #[.val (.ref oa), .val (.int (Int32.ofNat ps.length))] [(.ref oa), (.int (Int32.ofNat ps.length))])) rfl rfl (hb hby own_d_jdk_43_m2_2) t (by rw [len_of S101 M101]; exact k))
  obtain ⟨_, _, ⟨T102, L102, k102, n102⟩, -, X102, ⟨Lc102, hQ102, l102, y102, z102⟩, st102⟩ := Jvm.LawKit.callS X0 hx (y := (⟨"java/lang/String", "checkIndex", "(II)V"⟩ : MethodName)) hown (mvT hZ (hw _ (List.mem_of_getElem? (i := 128) rfl))) (mvT hZ (hw _ (List.mem_of_getElem? (i := 111) rfl))) (mvT hZ (hw _ (List.mem_of_getElem? (i := 8) rfl))) (mvT hZ (hw _ (List.mem_of_getElem? (i := 112) rfl))) (by decide) (backOf (W := 0) (own_rmsci l Z a0 hw hst [] (Int32.ofNat ps.length) (Int32.ofNat cs.length) h0 n0 X00 (own_neg32 (by omega)) (own_lt32 (by omega) (by omega))) hZ (hw _ (List.mem_of_getElem? (i := 112) rfl)) (hw _ (List.mem_of_getElem? (i := 8) rfl)) (by decide) (by decide)) (g := (mkF m 3 #[.val (.ref oa), .val (.int (Int32.ofNat ps.length))] [(.int (Int32.ofNat cs.length)), (.int (Int32.ofNat ps.length))])) rfl (by rw [hml]; rfl) (argsL := [(.int (Int32.ofNat ps.length)), (.int (Int32.ofNat cs.length))]) (rest := []) (lenOf own_pd9 rfl) rfl (by show 2 * 0 + _ ≤ _; exact Nat.le_of_eq rfl) (hb hby own_d_jdk_43_m2_3) (fun _ _ => ⟨rfl, e0, (by decide : 0 + 0 ≤ _), (by decide : 0 + 0 ≤ _)⟩)
  dsimp only [Pt.U, Pt.locs, Pt.cells, Pt.slots] at X102 l102 y102 z102 st102 hQ102
  subst l102 y102 z102
  obtain ⟨hv102, N102q, K102⟩ := hQ102
  subst hv102
  obtain ⟨h102, e102⟩ : ∃ z, T102.heap = z := ⟨_, rfl⟩
  rw [e102] at K102
  have Xo102 : Old Z n0 h102 := X00.keep K102 all0
  have KK102 : Keep h0 h102 [] := KK0.trans K102 all0
  have N102 := Fr.app N0 N102q
  refine own_to (V := T102.setTop (mkF m 6 #[.val (.ref oa), .val (.int (Int32.ofNat ps.length))] [])) ?_ st102
  refine own_to (V := T102.setTop (mkF m 8 #[.val (.ref oa), .val (.int (Int32.ofNat ps.length))] [(.int (Int32.ofNat ps.length)), (.ref oa)])) ?_ fun t k => (by
    refine XS.aloadN X102.here hx rfl (hb hby own_d_jdk_43_m2_6) rfl rfl ?_
    refine XS.iloadN X102.here hx rfl (hb hby own_d_jdk_43_m2_7) rfl ?_
    exact k)
  have F103 : Arv Z h102 oa kd .byte (Int32.ofNat cs.length) (cs.map own_loV) (.int (0 : Int32)) := (hV.keep K102 List.not_mem_nil)
  have hjn104 : ((Int32.ofNat ps.length)).toNatClampNeg = ps.length := (own_n32 (show ps.length < 2147483648 by omega))
  obtain ⟨cl104, Ar104, q104, S104, M104, H104, G104⟩ := id F103
  have hin104 : ¬ ((Int32.ofNat ps.length) < 0 ∨ cl104.slots.size ≤ ((Int32.ofNat ps.length)).toNatClampNeg) := own_in S104 (own_neg32 (by omega)) hjn104 (by rw [own_n32 (by omega)]; omega)
  refine own_to (V := T102.setTop (mkF m 9 #[.val (.ref oa), .val (.int (Int32.ofNat ps.length))] [(.int (StrChars.lo8 cc))])) ?_ (fun t k => X102.baloadBytes hx (j := (Int32.ofNat ps.length)) (v := (.int (StrChars.lo8 cc))) (by rw [e102]; exact Ar104.1) (State.isArrayOf_alike hZ.alike Ar104.2.1) Ar104.2.2 hin104 (Has.at H104 hin104 (by rw [hjn104]; exact (by rw [hcs]; exact own_getLo ps qs cc _))) (g := (mkF m 8 #[.val (.ref oa), .val (.int (Int32.ofNat ps.length))] [(.int (Int32.ofNat ps.length)), (.ref oa)])) rfl rfl (hb hby own_d_jdk_43_m2_8) t k)
  obtain ⟨c105, hc105⟩ : ∃ z : Int32, z = (((StrChars.lo8 cc) &&& (255 : Int32)).toUInt32.toUInt16.toUInt32.toInt32) := ⟨_, rfl⟩
  have rc_c105 : ¬ c105 < 0 ∧ ¬ (65535 : Int32) < c105 := by rw [hc105]; exact own_i2c_rng _
  have rb_c105 : ¬ c105 < 0 ∧ ¬ (255 : Int32) < c105 := by rw [hc105]; exact own_and255 _
  refine own_to (V := T102.setTop (mkF m 14 #[.val (.ref oa), .val (.int (Int32.ofNat ps.length))] [(.int c105)])) ?_ fun t k => (by
    first | rw [hc105] at k | skip
    refine XS.sipush X102.here hx rfl (hb hby own_d_jdk_43_m2_9) ?_
    refine XS.iand X102.here hx rfl (hb hby own_d_jdk_43_m2_12) rfl ?_
    refine XS.i2c X102.here hx rfl (hb hby own_d_jdk_43_m2_13) rfl ?_
    exact k)
  exact own_retN X102 hx (t := .char) (w := c105) hret (by decide) (own_narC rc_c105) hlk (hb hby own_d_jdk_43_m2_14) (by rw [e102]; exact (⟨(by rw [hc105]; exact congrArg (fun q => some (Value.int q)) (StrChars.chr8_lo8 hcc.1 hlt)), N102, KK102⟩)) (by decide) (by decide)
def own_Qulen (Z : State) (oa : Addr) (kd : ClassId) (cs : List Int32) (vs : List Value) (h0 : Heap) (n0 : Nat) (v : Option Value) (h : Heap) (L : List Loc) : Prop := (v = some (.int (Int32.ofNat cs.length)) ∧ Fr n0 L ∧ Keep h0 h [])
theorem own_ef_ulen (m : MethodId) (oa : Addr)  : entryFrame m #[(.ref oa)] 1 = mkF m 0 #[.val (.ref oa)] [] := by first | (simp [entryFrame, mkF, argsToLocals, Value.category]; done) | rfl
set_option maxRecDepth 65536 in
set_option maxHeartbeats 40000000 in
theorem own_rmulen (l : Launch) (Z : State) (a0 : Array Value) (hw : ∀ d ∈ tables_1, d.before a0 Z = true) (hst : own_St Z) (ws : List Jvm.Cond) (oa : Addr) (kd : ClassId) (cs : List Int32) (vs : List Value) (h0 : Heap) (n0 : Nat) (X00 : Old Z n0 h0) (hV : Arv Z h0 oa kd .byte (Int32.ofNat (2 * cs.length)) vs (.int (0 : Int32))) (hl : cs.length ≤ 3) :
    MetFree l (⟨"java/lang/StringUTF16", "length", "([B)I"⟩ : MethodName) (head1 (Jvm.Cond.code (⟨"java/lang/StringUTF16", "length", "([B)I"⟩ : MethodName) jdk_52_method_6_code 1 (Option.some Jvm.ClassFile.FieldType.int) :: ws) ({ frames := 0, cells := 0, slots := 0, locals := 0 } : Room)) (fun a U => a = #[(.ref oa)] ∧ Z.Warmed39 U.vm ∧ U.heap = h0) (fun _ _ _ _ _ => True) (fun _ U o U' => ∃ v L, o = .returned v ∧ own_Qulen Z oa kd cs vs h0 n0 v U'.heap L ∧ FrameEnd U o U' L ({ frames := 0, cells := 0, slots := 0, locals := 0 } : Room).cells ({ frames := 0, cells := 0, slots := 0, locals := 0 } : Room).slots) := by
  refine MetFree.of_bodySF (plainFor_of_name own_pn0) hisR ?_
  intro p e s m args below meth c s₁ Bd hml0 hP hK
  obtain ⟨rfl, hZ, hh⟩ := hP
  have hx := Bd.exec
  have hby := Bd.bytes
  have hret := Bd.returns
  have hlk : meth.locks = false := BodyLoose.notSynchronized Bd
  have hml : c.maxLocals = 1 := hml0
  have hown : s.vm.findClass "java/lang/StringUTF16" = some m.cls := findClass_of_methodNamed Bd.named
  have hnm := (name_of_methodNamed Bd.named Bd.method).1
  have X0 : Stand p l e ({ frames := 0, cells := 0, slots := 0, locals := 0 } : Room) s m #[(.ref oa)] below meth c s₁ [] 0 0 := Stand.of_body Bd
  have e0 : s₁.heap = h0 := by rw [← hh, Bd.state]; rfl
  have N0 := Fr.nil n0
  have KK0 : Keep h0 h0 [] := Keep.refl h0 _
  refine own_start (own_Qulen Z oa kd cs vs h0 n0) ?_
  refine own_to (V := s₁.setTop (mkF m 0 #[.val (.ref oa)] [])) ?_ (fun t k => castTop (own_ef_ulen m oa ) k)
  obtain ⟨⟨G1, O2, P5⟩, ⟨G3, O4, rG3⟩, ⟨uO1, uO2, uO3⟩, -⟩ := id hst
  refine own_to (V := s₁.setTop (mkF m 1 #[.val (.ref oa)] [(.ref oa)])) ?_ fun t k => (by
    refine XS.aloadN X0.here hx rfl (hb hby own_d_jdk_52_m6_0) rfl rfl ?_
    exact k)
  obtain ⟨cl101, Ar101, q101, S101, M101, H101, G101⟩ := id hV
  refine own_to (V := s₁.setTop (mkF m 2 #[.val (.ref oa)] [(.int (Int32.ofNat (2 * cs.length)))])) ?_ (fun t k => X0.arraylength hx (by rw [e0]; exact Ar101.1) (State.isArrayOf_alike hZ.alike Ar101.2.1) (g := (mkF m 1 #[.val (.ref oa)] [(.ref oa)])) rfl rfl (hb hby own_d_jdk_52_m6_1) t (by rw [len_of S101 M101]; exact k))
  refine own_to (V := s₁.setTop (mkF m 4 #[.val (.ref oa)] [(.int ((Int32.ofNat (2 * cs.length)) >>> ((1 : Int32) &&& 31)))])) ?_ fun t k => (by
    refine XS.iconst X0.here hx rfl (hb hby own_d_jdk_52_m6_2) ?_
    refine XS.ishr X0.here hx rfl (hb hby own_d_jdk_52_m6_3) rfl ?_
    exact k)
  exact own_retI X0 hx hret hlk (hb hby own_d_jdk_52_m6_4) (by rw [e0]; exact (⟨(congrArg (fun q => some (Value.int q)) (StrChars.shr1 (by omega))), N0, KK0⟩)) (by decide) (by decide)
def own_Quci (Z : State) (oa : Addr) (kd : ClassId) (vs : List Value) (cs : List Int32) (ps : List Int32) (cc : Int32) (qs : List Int32) (h0 : Heap) (n0 : Nat) (v : Option Value) (h : Heap) (L : List Loc) : Prop := (v = none ∧ Fr n0 L ∧ Keep h0 h [])
theorem own_ef_uci (m : MethodId) (oa : Addr) (ps : List Int32)  : entryFrame m #[(.int (Int32.ofNat ps.length)), (.ref oa)] 2 = mkF m 0 #[.val (.int (Int32.ofNat ps.length)), .val (.ref oa)] [] := by first | (simp [entryFrame, mkF, argsToLocals, Value.category]; done) | rfl
set_option maxRecDepth 65536 in
set_option maxHeartbeats 40000000 in
theorem own_rmuci (l : Launch) (Z : State) (a0 : Array Value) (hw : ∀ d ∈ tables_1, d.before a0 Z = true) (hst : own_St Z) (ws : List Jvm.Cond) (oa : Addr) (kd : ClassId) (vs : List Value) (cs : List Int32) (ps : List Int32) (cc : Int32) (qs : List Int32) (h0 : Heap) (n0 : Nat) (X00 : Old Z n0 h0) (hV : Arv Z h0 oa kd .byte (Int32.ofNat (2 * cs.length)) vs (.int (0 : Int32))) (hcs : cs = ps ++ cc :: qs) (hl : cs.length ≤ 3) :
    MetFree l (⟨"java/lang/StringUTF16", "checkIndex", "(I[B)V"⟩ : MethodName) (head1 (Jvm.Cond.code (⟨"java/lang/StringUTF16", "checkIndex", "(I[B)V"⟩ : MethodName) jdk_52_method_91_code 2 (Option.none : Option Jvm.ClassFile.FieldType) :: ws) ({ frames := 2, cells := 0, slots := 0, locals := 27 } : Room)) (fun a U => a = #[(.int (Int32.ofNat ps.length)), (.ref oa)] ∧ Z.Warmed39 U.vm ∧ U.heap = h0) (fun _ _ _ _ _ => True) (fun _ U o U' => ∃ v L, o = .returned v ∧ own_Quci Z oa kd vs cs ps cc qs h0 n0 v U'.heap L ∧ FrameEnd U o U' L ({ frames := 2, cells := 0, slots := 0, locals := 27 } : Room).cells ({ frames := 2, cells := 0, slots := 0, locals := 27 } : Room).slots) := by
  refine MetFree.of_bodySF (plainFor_of_name own_pn0) hisR ?_
  intro p e s m args below meth c s₁ Bd hml0 hP hK
  obtain ⟨rfl, hZ, hh⟩ := hP
  have hx := Bd.exec
  have hby := Bd.bytes
  have hret := Bd.returns
  have hlk : meth.locks = false := BodyLoose.notSynchronized Bd
  have hml : c.maxLocals = 2 := hml0
  have hown : s.vm.findClass "java/lang/StringUTF16" = some m.cls := findClass_of_methodNamed Bd.named
  have hnm := (name_of_methodNamed Bd.named Bd.method).1
  have X0 : Stand p l e ({ frames := 2, cells := 0, slots := 0, locals := 27 } : Room) s m #[(.int (Int32.ofNat ps.length)), (.ref oa)] below meth c s₁ [] 0 0 := Stand.of_body Bd
  have e0 : s₁.heap = h0 := by rw [← hh, Bd.state]; rfl
  have N0 := Fr.nil n0
  have KK0 : Keep h0 h0 [] := Keep.refl h0 _
  refine own_start (own_Quci Z oa kd vs cs ps cc qs h0 n0) ?_
  refine own_to (V := s₁.setTop (mkF m 0 #[.val (.int (Int32.ofNat ps.length)), .val (.ref oa)] [])) ?_ (fun t k => castTop (own_ef_uci m oa ps ) k)
  obtain ⟨⟨G1, O2, P5⟩, ⟨G3, O4, rG3⟩, ⟨uO1, uO2, uO3⟩, -⟩ := id hst
  have hlen : cs.length = ps.length + (qs.length + 1) := by rw [hcs]; simp
  refine own_to (V := s₁.setTop (mkF m 2 #[.val (.int (Int32.ofNat ps.length)), .val (.ref oa)] [(.ref oa), (.int (Int32.ofNat ps.length))])) ?_ fun t k => (by
    refine XS.iloadN X0.here hx rfl (hb hby own_d_jdk_52_m91_0) rfl ?_
    refine XS.aloadN X0.here hx rfl (hb hby own_d_jdk_52_m91_1) rfl rfl ?_
    exact k)
  obtain ⟨_, _, ⟨T101, L101, k101, n101⟩, -, X101, ⟨Lc101, hQ101, l101, y101, z101⟩, st101⟩ := Jvm.LawKit.callS X0 hx (y := (⟨"java/lang/StringUTF16", "length", "([B)I"⟩ : MethodName)) hown (mvT hZ (hw _ (List.mem_of_getElem? (i := 107) rfl))) (mvT hZ (hw _ (List.mem_of_getElem? (i := 108) rfl))) (mvT hZ (hw _ (List.mem_of_getElem? (i := 23) rfl))) (mvT hZ (hw _ (List.mem_of_getElem? (i := 109) rfl))) (by decide) (backOf (W := 1) (own_rmulen l Z a0 hw hst [] oa kd cs vs h0 n0 X00 hV hl) hZ (hw _ (List.mem_of_getElem? (i := 109) rfl)) (hw _ (List.mem_of_getElem? (i := 23) rfl)) (by decide) (by decide)) (g := (mkF m 2 #[.val (.int (Int32.ofNat ps.length)), .val (.ref oa)] [(.ref oa), (.int (Int32.ofNat ps.length))])) rfl (by rw [hml]; rfl) (argsL := [(.ref oa)]) (rest := [(.int (Int32.ofNat ps.length))]) (lenOf own_pd10 rfl) rfl (by show 2 * 0 + _ ≤ _; exact Nat.le_of_eq rfl) (hb hby own_d_jdk_52_m91_2) (fun _ _ => ⟨rfl, e0, (by decide : 0 + 0 ≤ _), (by decide : 0 + 0 ≤ _)⟩)
  dsimp only [Pt.U, Pt.locs, Pt.cells, Pt.slots] at X101 l101 y101 z101 st101 hQ101
  subst l101 y101 z101
  obtain ⟨hv101, N101q, K101⟩ := hQ101
  subst hv101
  obtain ⟨h101, e101⟩ : ∃ z, T101.heap = z := ⟨_, rfl⟩
  rw [e101] at K101
  have Xo101 : Old Z n0 h101 := X00.keep K101 all0
  have KK101 : Keep h0 h101 [] := KK0.trans K101 all0
  have N101 := Fr.app N0 N101q
  refine own_to (V := T101.setTop (mkF m 5 #[.val (.int (Int32.ofNat ps.length)), .val (.ref oa)] [(.int (Int32.ofNat cs.length)), (.int (Int32.ofNat ps.length))])) ?_ st101
  obtain ⟨_, _, ⟨T102, L102, k102, n102⟩, -, X102, ⟨Lc102, hQ102, l102, y102, z102⟩, st102⟩ := Jvm.LawKit.callS X101 hx (y := (⟨"java/lang/String", "checkIndex", "(II)V"⟩ : MethodName)) hown (mvT hZ (hw _ (List.mem_of_getElem? (i := 110) rfl))) (mvT hZ (hw _ (List.mem_of_getElem? (i := 111) rfl))) (mvT hZ (hw _ (List.mem_of_getElem? (i := 8) rfl))) (mvT hZ (hw _ (List.mem_of_getElem? (i := 112) rfl))) (by decide) (backOf (W := 0) (own_rmsci l Z a0 hw hst [] (Int32.ofNat ps.length) (Int32.ofNat cs.length) h101 n0 Xo101 (own_neg32 (by omega)) (own_lt32 (by omega) (by omega))) hZ (hw _ (List.mem_of_getElem? (i := 112) rfl)) (hw _ (List.mem_of_getElem? (i := 8) rfl)) (by decide) (by decide)) (g := (mkF m 5 #[.val (.int (Int32.ofNat ps.length)), .val (.ref oa)] [(.int (Int32.ofNat cs.length)), (.int (Int32.ofNat ps.length))])) rfl (by rw [hml]; rfl) (argsL := [(.int (Int32.ofNat ps.length)), (.int (Int32.ofNat cs.length))]) (rest := []) (lenOf own_pd9 rfl) rfl (by show 2 * 0 + _ ≤ _; exact Nat.le_of_eq rfl) (hb hby own_d_jdk_52_m91_5) (fun _ _ => ⟨rfl, e101, (by decide : 0 + 0 ≤ _), (by decide : 0 + 0 ≤ _)⟩)
  dsimp only [Pt.U, Pt.locs, Pt.cells, Pt.slots] at X102 l102 y102 z102 st102 hQ102
  subst l102 y102 z102
  obtain ⟨hv102, N102q, K102⟩ := hQ102
  subst hv102
  obtain ⟨h102, e102⟩ : ∃ z, T102.heap = z := ⟨_, rfl⟩
  rw [e102] at K102
  have Xo102 : Old Z n0 h102 := Xo101.keep K102 all0
  have KK102 : Keep h0 h102 [] := KK101.trans K102 all0
  have N102 := Fr.app N101 N102q
  refine own_to (V := T102.setTop (mkF m 8 #[.val (.int (Int32.ofNat ps.length)), .val (.ref oa)] [])) ?_ st102
  exact own_retV X102 hx hret hlk (hb hby own_d_jdk_52_m91_8) (by rw [e102]; exact (⟨rfl, N102, KK102⟩)) (by decide) (by decide)
def own_Quch (Z : State) (oa : Addr) (kd : ClassId) (cs : List Int32) (ps : List Int32) (cc : Int32) (qs : List Int32) (h0 : Heap) (n0 : Nat) (v : Option Value) (h : Heap) (L : List Loc) : Prop := (v = some (.int cc) ∧ Fr n0 L ∧ Keep h0 h [])
theorem own_ef_uch (m : MethodId) (oa : Addr) (ps : List Int32)  : entryFrame m #[(.ref oa), (.int (Int32.ofNat ps.length))] 2 = mkF m 0 #[.val (.ref oa), .val (.int (Int32.ofNat ps.length))] [] := by first | (simp [entryFrame, mkF, argsToLocals, Value.category]; done) | rfl
set_option maxRecDepth 65536 in
set_option maxHeartbeats 40000000 in
theorem own_rmuch (l : Launch) (Z : State) (a0 : Array Value) (hw : ∀ d ∈ tables_1, d.before a0 Z = true) (hst : own_St Z) (ws : List Jvm.Cond) (oa : Addr) (kd : ClassId) (cs : List Int32) (ps : List Int32) (cc : Int32) (qs : List Int32) (h0 : Heap) (n0 : Nat) (X00 : Old Z n0 h0) (hV : Arv Z h0 oa kd .byte (Int32.ofNat (2 * cs.length)) (StrChars.Road.wideBytes cs) (.int (0 : Int32))) (hcs : cs = ps ++ cc :: qs) (hcc : ¬ cc < 0 ∧ ¬ (65535 : Int32) < cc) (hl : cs.length ≤ 3) :
    MetFree l (⟨"java/lang/StringUTF16", "charAt", "([BI)C"⟩ : MethodName) (head1 (Jvm.Cond.code (⟨"java/lang/StringUTF16", "charAt", "([BI)C"⟩ : MethodName) jdk_52_method_83_code 2 (Option.some Jvm.ClassFile.FieldType.char) :: ws) ({ frames := 3, cells := 0, slots := 0, locals := 40 } : Room)) (fun a U => a = #[(.ref oa), (.int (Int32.ofNat ps.length))] ∧ Z.Warmed39 U.vm ∧ U.heap = h0) (fun _ _ _ _ _ => True) (fun _ U o U' => ∃ v L, o = .returned v ∧ own_Quch Z oa kd cs ps cc qs h0 n0 v U'.heap L ∧ FrameEnd U o U' L ({ frames := 3, cells := 0, slots := 0, locals := 40 } : Room).cells ({ frames := 3, cells := 0, slots := 0, locals := 40 } : Room).slots) := by
  refine MetFree.of_bodySF (plainFor_of_name own_pn0) hisR ?_
  intro p e s m args below meth c s₁ Bd hml0 hP hK
  obtain ⟨rfl, hZ, hh⟩ := hP
  have hx := Bd.exec
  have hby := Bd.bytes
  have hret := Bd.returns
  have hlk : meth.locks = false := BodyLoose.notSynchronized Bd
  have hml : c.maxLocals = 2 := hml0
  have hown : s.vm.findClass "java/lang/StringUTF16" = some m.cls := findClass_of_methodNamed Bd.named
  have hnm := (name_of_methodNamed Bd.named Bd.method).1
  have X0 : Stand p l e ({ frames := 3, cells := 0, slots := 0, locals := 40 } : Room) s m #[(.ref oa), (.int (Int32.ofNat ps.length))] below meth c s₁ [] 0 0 := Stand.of_body Bd
  have e0 : s₁.heap = h0 := by rw [← hh, Bd.state]; rfl
  have N0 := Fr.nil n0
  have KK0 : Keep h0 h0 [] := Keep.refl h0 _
  refine own_start (own_Quch Z oa kd cs ps cc qs h0 n0) ?_
  refine own_to (V := s₁.setTop (mkF m 0 #[.val (.ref oa), .val (.int (Int32.ofNat ps.length))] [])) ?_ (fun t k => castTop (own_ef_uch m oa ps ) k)
  obtain ⟨⟨G1, O2, P5⟩, ⟨G3, O4, rG3⟩, ⟨uO1, uO2, uO3⟩, -⟩ := id hst
  refine own_to (V := s₁.setTop (mkF m 2 #[.val (.ref oa), .val (.int (Int32.ofNat ps.length))] [(.ref oa), (.int (Int32.ofNat ps.length))])) ?_ fun t k => (by
    refine XS.iloadN X0.here hx rfl (hb hby own_d_jdk_52_m83_0) rfl ?_
    refine XS.aloadN X0.here hx rfl (hb hby own_d_jdk_52_m83_1) rfl rfl ?_
    exact k)
  obtain ⟨_, _, ⟨T101, L101, k101, n101⟩, -, X101, ⟨Lc101, hQ101, l101, y101, z101⟩, st101⟩ := Jvm.LawKit.callS X0 hx (y := (⟨"java/lang/StringUTF16", "checkIndex", "(I[B)V"⟩ : MethodName)) hown (mvT hZ (hw _ (List.mem_of_getElem? (i := 104) rfl))) (mvT hZ (hw _ (List.mem_of_getElem? (i := 105) rfl))) (mvT hZ (hw _ (List.mem_of_getElem? (i := 23) rfl))) (mvT hZ (hw _ (List.mem_of_getElem? (i := 106) rfl))) (by decide) (backOf (W := 0) (own_rmuci l Z a0 hw hst [] oa kd (StrChars.Road.wideBytes cs) cs ps cc qs h0 n0 X00 hV hcs hl) hZ (hw _ (List.mem_of_getElem? (i := 106) rfl)) (hw _ (List.mem_of_getElem? (i := 23) rfl)) (by decide) (by decide)) (g := (mkF m 2 #[.val (.ref oa), .val (.int (Int32.ofNat ps.length))] [(.ref oa), (.int (Int32.ofNat ps.length))])) rfl (by rw [hml]; rfl) (argsL := [(.int (Int32.ofNat ps.length)), (.ref oa)]) (rest := []) (lenOf own_pd11 rfl) rfl (by show 2 * 0 + _ ≤ _; exact Nat.le_of_eq rfl) (hb hby own_d_jdk_52_m83_2) (fun _ _ => ⟨rfl, e0, (by decide : 0 + 0 ≤ _), (by decide : 0 + 0 ≤ _)⟩)
  dsimp only [Pt.U, Pt.locs, Pt.cells, Pt.slots] at X101 l101 y101 z101 st101 hQ101
  subst l101 y101 z101
  obtain ⟨hv101, N101q, K101⟩ := hQ101
  subst hv101
  obtain ⟨h101, e101⟩ : ∃ z, T101.heap = z := ⟨_, rfl⟩
  rw [e101] at K101
  have Xo101 : Old Z n0 h101 := X00.keep K101 all0
  have KK101 : Keep h0 h101 [] := KK0.trans K101 all0
  have N101 := Fr.app N0 N101q
  refine own_to (V := T101.setTop (mkF m 5 #[.val (.ref oa), .val (.int (Int32.ofNat ps.length))] [])) ?_ st101
  refine own_to (V := T101.setTop (mkF m 7 #[.val (.ref oa), .val (.int (Int32.ofNat ps.length))] [(.int (Int32.ofNat ps.length)), (.ref oa)])) ?_ fun t k => (by
    refine XS.aloadN X101.here hx rfl (hb hby own_d_jdk_52_m83_5) rfl rfl ?_
    refine XS.iloadN X101.here hx rfl (hb hby own_d_jdk_52_m83_6) rfl ?_
    exact k)
  have F103 : Arv Z h101 oa kd .byte (Int32.ofNat (2 * cs.length)) (StrChars.Road.wideBytes cs) (.int (0 : Int32)) := (hV.keep K101 List.not_mem_nil)
  obtain ⟨_, _, ⟨T102, L102, k102, n102⟩, -, X102, ⟨Lc102, hQ102, l102, y102, z102⟩, st102⟩ := Jvm.LawKit.callS X101 hx (y := (⟨"java/lang/StringUTF16", "getChar", "([BI)C"⟩ : MethodName)) hown (mvT hZ (hw _ (List.mem_of_getElem? (i := 45) rfl))) (mvT hZ (hw _ (List.mem_of_getElem? (i := 46) rfl))) (mvT hZ (hw _ (List.mem_of_getElem? (i := 23) rfl))) (mvT hZ (hw _ (List.mem_of_getElem? (i := 47) rfl))) (by decide) (backOf (W := 0) (own_rmgetc l Z a0 hw hst [] oa kd cs ps cc qs h101 n0 Xo101 F103 hcs hcc hl) hZ (hw _ (List.mem_of_getElem? (i := 47) rfl)) (hw _ (List.mem_of_getElem? (i := 23) rfl)) (by decide) (by decide)) (g := (mkF m 7 #[.val (.ref oa), .val (.int (Int32.ofNat ps.length))] [(.int (Int32.ofNat ps.length)), (.ref oa)])) rfl (by rw [hml]; rfl) (argsL := [(.ref oa), (.int (Int32.ofNat ps.length))]) (rest := []) (lenOf own_pd5 rfl) rfl (by show 2 * 0 + _ ≤ _; exact Nat.le_of_eq rfl) (hb hby own_d_jdk_52_m83_7) (fun _ _ => ⟨rfl, e101, (by decide : 0 + 0 ≤ _), (by decide : 0 + 0 ≤ _)⟩)
  dsimp only [Pt.U, Pt.locs, Pt.cells, Pt.slots] at X102 l102 y102 z102 st102 hQ102
  subst l102 y102 z102
  obtain ⟨hv102, N102q, K102⟩ := hQ102
  subst hv102
  obtain ⟨h102, e102⟩ : ∃ z, T102.heap = z := ⟨_, rfl⟩
  rw [e102] at K102
  have Xo102 : Old Z n0 h102 := Xo101.keep K102 all0
  have KK102 : Keep h0 h102 [] := KK101.trans K102 all0
  have N102 := Fr.app N101 N102q
  refine own_to (V := T102.setTop (mkF m 10 #[.val (.ref oa), .val (.int (Int32.ofNat ps.length))] [(.int cc)])) ?_ st102
  exact own_retN X102 hx (t := .char) (w := cc) hret (by decide) (own_narC hcc) hlk (hb hby own_d_jdk_52_m83_10) (by rw [e102]; exact (⟨rfl, N102, KK102⟩)) (by decide) (by decide)
def own_Qisl0 (Z : State) (oa : Addr) (h0 : Heap) (n0 : Nat) (v : Option Value) (h : Heap) (L : List Loc) : Prop := (v = some (.int (1 : Int32)) ∧ Fr n0 L ∧ Keep h0 h [])
theorem own_ef_isl0 (m : MethodId) (oa : Addr)  : entryFrame m #[(.ref oa)] 1 = mkF m 0 #[.val (.ref oa)] [] := by first | (simp [entryFrame, mkF, argsToLocals, Value.category]; done) | rfl
set_option maxRecDepth 65536 in
set_option maxHeartbeats 40000000 in
theorem own_rmisl0 (l : Launch) (Z : State) (a0 : Array Value) (hw : ∀ d ∈ tables_1, d.before a0 Z = true) (hst : own_St Z) (ws : List Jvm.Cond) (oa : Addr) (h0 : Heap) (n0 : Nat) (X00 : Old Z n0 h0) (hC : Fld Z h0 oa "java/lang/String" "coder" "B" (.int (0 : Int32))) :
    MetFree l (⟨"java/lang/String", "isLatin1", "()Z"⟩ : MethodName) (head1 (Jvm.Cond.code (⟨"java/lang/String", "isLatin1", "()Z"⟩ : MethodName) jdk_42_method_154_code 1 (Option.some Jvm.ClassFile.FieldType.boolean) :: ws) ({ frames := 0, cells := 0, slots := 0, locals := 0 } : Room)) (fun a U => a = #[(.ref oa)] ∧ Z.Warmed39 U.vm ∧ U.heap = h0) (fun _ _ _ _ _ => True) (fun _ U o U' => ∃ v L, o = .returned v ∧ own_Qisl0 Z oa h0 n0 v U'.heap L ∧ FrameEnd U o U' L ({ frames := 0, cells := 0, slots := 0, locals := 0 } : Room).cells ({ frames := 0, cells := 0, slots := 0, locals := 0 } : Room).slots) := by
  refine MetFree.of_bodySF (plainFor_of_name own_pn1) hisR ?_
  intro p e s m args below meth c s₁ Bd hml0 hP hK
  obtain ⟨rfl, hZ, hh⟩ := hP
  have hx := Bd.exec
  have hby := Bd.bytes
  have hret := Bd.returns
  have hlk : meth.locks = false := BodyLoose.notSynchronized Bd
  have hml : c.maxLocals = 1 := hml0
  have hown : s.vm.findClass "java/lang/String" = some m.cls := findClass_of_methodNamed Bd.named
  have hnm := (name_of_methodNamed Bd.named Bd.method).1
  have X0 : Stand p l e ({ frames := 0, cells := 0, slots := 0, locals := 0 } : Room) s m #[(.ref oa)] below meth c s₁ [] 0 0 := Stand.of_body Bd
  have e0 : s₁.heap = h0 := by rw [← hh, Bd.state]; rfl
  have N0 := Fr.nil n0
  have KK0 : Keep h0 h0 [] := Keep.refl h0 _
  refine own_start (own_Qisl0 Z oa h0 n0) ?_
  refine own_to (V := s₁.setTop (mkF m 0 #[.val (.ref oa)] [])) ?_ (fun t k => castTop (own_ef_isl0 m oa ) k)
  obtain ⟨⟨G1, O2, P5⟩, ⟨G3, O4, rG3⟩, ⟨uO1, uO2, uO3⟩, -⟩ := id hst
  obtain ⟨T101, X101, e101, st101⟩ := getS2 X0 hx hZ hown (host := "") (Or.inl (hw _ (List.mem_of_getElem? (i := 20) rfl))) Via.refl e0 (O2.ext X00.2) (g := (mkF m 0 #[.val (.ref oa)] [])) rfl (hb hby own_d_jdk_42_m154_0)
  refine own_to (V := T101.setTop (mkF m 3 #[.val (.ref oa)] [(.int G1)])) ?_ st101
  refine own_to (V := T101.setTop (mkF m 7 #[.val (.ref oa)] [(.ref oa)])) ?_ fun t k => (by
    refine XS.ifNo X101.here hx rfl (hb hby own_d_jdk_42_m154_3) rfl ((if0 _ _).trans (feq (P5 : ¬ (G1 = (0 : Int32)))).1) ?_
    refine XS.aloadN X101.here hx rfl (hb hby own_d_jdk_42_m154_6) rfl rfl ?_
    exact k)
  obtain ⟨T102, X102, e102, st102⟩ := getF X101 hx hZ hown (host := "") (Or.inl (hw _ (List.mem_of_getElem? (i := 51) rfl))) Via.refl e101 hC (g := (mkF m 7 #[.val (.ref oa)] [(.ref oa)])) rfl rfl (hb hby own_d_jdk_42_m154_7)
  refine own_to (V := T102.setTop (mkF m 10 #[.val (.ref oa)] [(.int (0 : Int32))])) ?_ st102
  refine own_to (V := T102.setTop (mkF m 18 #[.val (.ref oa)] [(.int (1 : Int32))])) ?_ fun t k => (by
    refine XS.ifNo X102.here hx rfl (hb hby own_d_jdk_42_m154_10) rfl ((if0 _ _).trans (teq ((by decide) : (0 : Int32) = (0 : Int32))).2) ?_
    refine XS.iconst X102.here hx rfl (hb hby own_d_jdk_42_m154_13) ?_
    refine XS.goto X102.here hx rfl (pc0 := 14) (pc' := 18) rfl (hb hby own_d_jdk_42_m154_14) (by decide) (by decide) ?_
    exact k)
  exact own_retN X102 hx (t := .boolean) (w := (1 : Int32)) hret (by decide) rfl hlk (hb hby own_d_jdk_42_m154_18) (by rw [e102]; exact (⟨rfl, N0, KK0⟩)) (by decide) (by decide)
def own_Qisl1 (Z : State) (oa : Addr) (h0 : Heap) (n0 : Nat) (v : Option Value) (h : Heap) (L : List Loc) : Prop := (v = some (.int (0 : Int32)) ∧ Fr n0 L ∧ Keep h0 h [])
theorem own_ef_isl1 (m : MethodId) (oa : Addr)  : entryFrame m #[(.ref oa)] 1 = mkF m 0 #[.val (.ref oa)] [] := by first | (simp [entryFrame, mkF, argsToLocals, Value.category]; done) | rfl
set_option maxRecDepth 65536 in
set_option maxHeartbeats 40000000 in
theorem own_rmisl1 (l : Launch) (Z : State) (a0 : Array Value) (hw : ∀ d ∈ tables_1, d.before a0 Z = true) (hst : own_St Z) (ws : List Jvm.Cond) (oa : Addr) (h0 : Heap) (n0 : Nat) (X00 : Old Z n0 h0) (hC : Fld Z h0 oa "java/lang/String" "coder" "B" (.int (1 : Int32))) :
    MetFree l (⟨"java/lang/String", "isLatin1", "()Z"⟩ : MethodName) (head1 (Jvm.Cond.code (⟨"java/lang/String", "isLatin1", "()Z"⟩ : MethodName) jdk_42_method_154_code 1 (Option.some Jvm.ClassFile.FieldType.boolean) :: ws) ({ frames := 0, cells := 0, slots := 0, locals := 0 } : Room)) (fun a U => a = #[(.ref oa)] ∧ Z.Warmed39 U.vm ∧ U.heap = h0) (fun _ _ _ _ _ => True) (fun _ U o U' => ∃ v L, o = .returned v ∧ own_Qisl1 Z oa h0 n0 v U'.heap L ∧ FrameEnd U o U' L ({ frames := 0, cells := 0, slots := 0, locals := 0 } : Room).cells ({ frames := 0, cells := 0, slots := 0, locals := 0 } : Room).slots) := by
  refine MetFree.of_bodySF (plainFor_of_name own_pn1) hisR ?_
  intro p e s m args below meth c s₁ Bd hml0 hP hK
  obtain ⟨rfl, hZ, hh⟩ := hP
  have hx := Bd.exec
  have hby := Bd.bytes
  have hret := Bd.returns
  have hlk : meth.locks = false := BodyLoose.notSynchronized Bd
  have hml : c.maxLocals = 1 := hml0
  have hown : s.vm.findClass "java/lang/String" = some m.cls := findClass_of_methodNamed Bd.named
  have hnm := (name_of_methodNamed Bd.named Bd.method).1
  have X0 : Stand p l e ({ frames := 0, cells := 0, slots := 0, locals := 0 } : Room) s m #[(.ref oa)] below meth c s₁ [] 0 0 := Stand.of_body Bd
  have e0 : s₁.heap = h0 := by rw [← hh, Bd.state]; rfl
  have N0 := Fr.nil n0
  have KK0 : Keep h0 h0 [] := Keep.refl h0 _
  refine own_start (own_Qisl1 Z oa h0 n0) ?_
  refine own_to (V := s₁.setTop (mkF m 0 #[.val (.ref oa)] [])) ?_ (fun t k => castTop (own_ef_isl1 m oa ) k)
  obtain ⟨⟨G1, O2, P5⟩, ⟨G3, O4, rG3⟩, ⟨uO1, uO2, uO3⟩, -⟩ := id hst
  obtain ⟨T101, X101, e101, st101⟩ := getS2 X0 hx hZ hown (host := "") (Or.inl (hw _ (List.mem_of_getElem? (i := 20) rfl))) Via.refl e0 (O2.ext X00.2) (g := (mkF m 0 #[.val (.ref oa)] [])) rfl (hb hby own_d_jdk_42_m154_0)
  refine own_to (V := T101.setTop (mkF m 3 #[.val (.ref oa)] [(.int G1)])) ?_ st101
  refine own_to (V := T101.setTop (mkF m 7 #[.val (.ref oa)] [(.ref oa)])) ?_ fun t k => (by
    refine XS.ifNo X101.here hx rfl (hb hby own_d_jdk_42_m154_3) rfl ((if0 _ _).trans (feq (P5 : ¬ (G1 = (0 : Int32)))).1) ?_
    refine XS.aloadN X101.here hx rfl (hb hby own_d_jdk_42_m154_6) rfl rfl ?_
    exact k)
  obtain ⟨T102, X102, e102, st102⟩ := getF X101 hx hZ hown (host := "") (Or.inl (hw _ (List.mem_of_getElem? (i := 51) rfl))) Via.refl e101 hC (g := (mkF m 7 #[.val (.ref oa)] [(.ref oa)])) rfl rfl (hb hby own_d_jdk_42_m154_7)
  refine own_to (V := T102.setTop (mkF m 10 #[.val (.ref oa)] [(.int (1 : Int32))])) ?_ st102
  refine own_to (V := T102.setTop (mkF m 18 #[.val (.ref oa)] [(.int (0 : Int32))])) ?_ fun t k => (by
    refine XS.ifYes X102.here hx rfl (pc0 := 10) (pc' := 17) rfl (hb hby own_d_jdk_42_m154_10) rfl ((if0 _ _).trans (feq ((by decide) : ¬ ((1 : Int32) = (0 : Int32)))).2) (by decide) (by decide) ?_
    refine XS.iconst X102.here hx rfl (hb hby own_d_jdk_42_m154_17) ?_
    exact k)
  exact own_retN X102 hx (t := .boolean) (w := (0 : Int32)) hret (by decide) rfl hlk (hb hby own_d_jdk_42_m154_18) (by rw [e102]; exact (⟨rfl, N0, KK0⟩)) (by decide) (by decide)
def own_Qch0 (Z : State) (oa : Addr) (ou : Addr) (kd : ClassId) (cs : List Int32) (ps : List Int32) (cc : Int32) (qs : List Int32) (h0 : Heap) (n0 : Nat) (v : Option Value) (h : Heap) (L : List Loc) : Prop := (v = some (.int cc) ∧ Fr n0 L ∧ Keep h0 h [])
theorem own_ef_ch0 (m : MethodId) (oa : Addr) (ps : List Int32)  : entryFrame m #[(.ref oa), (.int (Int32.ofNat ps.length))] 2 = mkF m 0 #[.val (.ref oa), .val (.int (Int32.ofNat ps.length))] [] := by first | (simp [entryFrame, mkF, argsToLocals, Value.category]; done) | rfl
set_option maxRecDepth 65536 in
set_option maxHeartbeats 40000000 in
theorem own_rmch0 (l : Launch) (Z : State) (a0 : Array Value) (hw : ∀ d ∈ tables_1, d.before a0 Z = true) (hst : own_St Z) (ws : List Jvm.Cond) (oa : Addr) (ou : Addr) (kd : ClassId) (cs : List Int32) (ps : List Int32) (cc : Int32) (qs : List Int32) (h0 : Heap) (n0 : Nat) (X00 : Old Z n0 h0) (hE : Exa Z h0 oa "java/lang/String") (hF : Fld Z h0 oa "java/lang/String" "value" "[B" (.ref ou)) (hC : Fld Z h0 oa "java/lang/String" "coder" "B" (.int (0 : Int32))) (hV : Arv Z h0 ou kd .byte (Int32.ofNat cs.length) (cs.map own_loV) (.int (0 : Int32))) (hcs : cs = ps ++ cc :: qs) (hcc : ¬ cc < 0 ∧ ¬ (65535 : Int32) < cc) (hl : cs.length ≤ 3) (hlt : ¬ (255 : Int32) < cc) :
    MetFree l (⟨"java/lang/String", "charAt", "(I)C"⟩ : MethodName) (head1 (Jvm.Cond.code (⟨"java/lang/String", "charAt", "(I)C"⟩ : MethodName) jdk_42_method_56_code 2 (Option.some Jvm.ClassFile.FieldType.char) :: ws) ({ frames := 4, cells := 0, slots := 0, locals := 53 } : Room)) (fun a U => a = #[(.ref oa), (.int (Int32.ofNat ps.length))] ∧ Z.Warmed39 U.vm ∧ U.heap = h0) (fun _ _ _ _ _ => True) (fun _ U o U' => ∃ v L, o = .returned v ∧ own_Qch0 Z oa ou kd cs ps cc qs h0 n0 v U'.heap L ∧ FrameEnd U o U' L ({ frames := 4, cells := 0, slots := 0, locals := 53 } : Room).cells ({ frames := 4, cells := 0, slots := 0, locals := 53 } : Room).slots) := by
  refine MetFree.of_bodySF (plainFor_of_name own_pn1) hisR ?_
  intro p e s m args below meth c s₁ Bd hml0 hP hK
  obtain ⟨rfl, hZ, hh⟩ := hP
  have hx := Bd.exec
  have hby := Bd.bytes
  have hret := Bd.returns
  have hlk : meth.locks = false := BodyLoose.notSynchronized Bd
  have hml : c.maxLocals = 2 := hml0
  have hown : s.vm.findClass "java/lang/String" = some m.cls := findClass_of_methodNamed Bd.named
  have hnm := (name_of_methodNamed Bd.named Bd.method).1
  have X0 : Stand p l e ({ frames := 4, cells := 0, slots := 0, locals := 53 } : Room) s m #[(.ref oa), (.int (Int32.ofNat ps.length))] below meth c s₁ [] 0 0 := Stand.of_body Bd
  have e0 : s₁.heap = h0 := by rw [← hh, Bd.state]; rfl
  have N0 := Fr.nil n0
  have KK0 : Keep h0 h0 [] := Keep.refl h0 _
  refine own_start (own_Qch0 Z oa ou kd cs ps cc qs h0 n0) ?_
  refine own_to (V := s₁.setTop (mkF m 0 #[.val (.ref oa), .val (.int (Int32.ofNat ps.length))] [])) ?_ (fun t k => castTop (own_ef_ch0 m oa ps ) k)
  obtain ⟨⟨G1, O2, P5⟩, ⟨G3, O4, rG3⟩, ⟨uO1, uO2, uO3⟩, -⟩ := id hst
  refine own_to (V := s₁.setTop (mkF m 1 #[.val (.ref oa), .val (.int (Int32.ofNat ps.length))] [(.ref oa)])) ?_ fun t k => (by
    refine XS.aloadN X0.here hx rfl (hb hby own_d_jdk_42_m56_0) rfl rfl ?_
    exact k)
  obtain ⟨cq101, kq101, q101a, q101b, q101c⟩ := isOf hZ e0 hE
  obtain ⟨_, _, ⟨T101, L101, k101, n101⟩, -, X101, ⟨Lc101, hQ101, l101, y101, z101⟩, st101⟩ := X0.virtualBack hx (y := (⟨"java/lang/String", "isLatin1", "()Z"⟩ : MethodName)) (z := (⟨"java/lang/String", "isLatin1", "()Z"⟩ : MethodName)) hown (mvT hZ (hw _ (List.mem_of_getElem? (i := 96) rfl))) (mvT hZ (hw _ (List.mem_of_getElem? (i := 97) rfl))) (notFace_of_selects (args := #[]) (mvT hZ (hw _ (List.mem_of_getElem? (i := 99) rfl)))) (mvT hZ (hw _ (List.mem_of_getElem? (i := 99) rfl))) (mvT hZ (hw _ (List.mem_of_getElem? (i := 98) rfl))) (by decide) (backOf (W := 0) (own_rmisl0 l Z a0 hw hst [] oa h0 n0 X00 hC) hZ (hw _ (List.mem_of_getElem? (i := 100) rfl)) (hw _ (List.mem_of_getElem? (i := 8) rfl)) (by decide) (by decide)) q101a q101c (g := (mkF m 1 #[.val (.ref oa), .val (.int (Int32.ofNat ps.length))] [(.ref oa)])) rfl (by rw [hml]; rfl) (Steps.refl _) (argsL := []) (rest := []) (lenOf own_pd12 rfl) rfl (by show 2 * 0 + _ ≤ _; exact Nat.le_of_eq rfl) (hb hby own_d_jdk_42_m56_1) (fun _ _ => ⟨rfl, e0, (by decide : 0 + 0 ≤ _), (by decide : 0 + 0 ≤ _)⟩)
  dsimp only [Pt.U, Pt.locs, Pt.cells, Pt.slots] at X101 l101 y101 z101 st101 hQ101
  subst l101 y101 z101
  obtain ⟨hv101, N101q, K101⟩ := hQ101
  subst hv101
  obtain ⟨h101, e101⟩ : ∃ z, T101.heap = z := ⟨_, rfl⟩
  rw [e101] at K101
  have Xo101 : Old Z n0 h101 := X00.keep K101 all0
  have KK101 : Keep h0 h101 [] := KK0.trans K101 all0
  have N101 := Fr.app N0 N101q
  refine own_to (V := T101.setTop (mkF m 4 #[.val (.ref oa), .val (.int (Int32.ofNat ps.length))] [(.int (1 : Int32))])) ?_ (fun t k => st101.trans k)
  refine own_to (V := T101.setTop (mkF m 8 #[.val (.ref oa), .val (.int (Int32.ofNat ps.length))] [(.ref oa)])) ?_ fun t k => (by
    refine XS.ifNo X101.here hx rfl (hb hby own_d_jdk_42_m56_4) rfl ((if0 _ _).trans (feq ((by decide) : ¬ ((1 : Int32) = (0 : Int32)))).1) ?_
    refine XS.aloadN X101.here hx rfl (hb hby own_d_jdk_42_m56_7) rfl rfl ?_
    exact k)
  have F102 : Fld Z h101 oa "java/lang/String" "value" "[B" (.ref ou) := (hF.keep K101 List.not_mem_nil)
  obtain ⟨T103, X103, e103, st103⟩ := getF X101 hx hZ hown (host := "") (Or.inl (hw _ (List.mem_of_getElem? (i := 53) rfl))) Via.refl e101 F102 (g := (mkF m 8 #[.val (.ref oa), .val (.int (Int32.ofNat ps.length))] [(.ref oa)])) rfl rfl (hb hby own_d_jdk_42_m56_8)
  refine own_to (V := T103.setTop (mkF m 11 #[.val (.ref oa), .val (.int (Int32.ofNat ps.length))] [(.ref ou)])) ?_ st103
  refine own_to (V := T103.setTop (mkF m 12 #[.val (.ref oa), .val (.int (Int32.ofNat ps.length))] [(.int (Int32.ofNat ps.length)), (.ref ou)])) ?_ fun t k => (by
    refine XS.iloadN X103.here hx rfl (hb hby own_d_jdk_42_m56_11) rfl ?_
    exact k)
  have F105 : Arv Z h101 ou kd .byte (Int32.ofNat cs.length) (cs.map own_loV) (.int (0 : Int32)) := (hV.keep K101 List.not_mem_nil)
  obtain ⟨_, _, ⟨T104, L104, k104, n104⟩, -, X104, ⟨Lc104, hQ104, l104, y104, z104⟩, st104⟩ := Jvm.LawKit.callS X103 hx (y := (⟨"java/lang/StringLatin1", "charAt", "([BI)C"⟩ : MethodName)) hown (mvT hZ (hw _ (List.mem_of_getElem? (i := 125) rfl))) (mvT hZ (hw _ (List.mem_of_getElem? (i := 126) rfl))) (mvT hZ (hw _ (List.mem_of_getElem? (i := 60) rfl))) (mvT hZ (hw _ (List.mem_of_getElem? (i := 127) rfl))) (by decide) (backOf (W := 0) (own_rmlch l Z a0 hw hst [] ou kd cs ps cc qs h101 n0 Xo101 F105 hcs hcc hlt hl) hZ (hw _ (List.mem_of_getElem? (i := 127) rfl)) (hw _ (List.mem_of_getElem? (i := 60) rfl)) (by decide) (by decide)) (g := (mkF m 12 #[.val (.ref oa), .val (.int (Int32.ofNat ps.length))] [(.int (Int32.ofNat ps.length)), (.ref ou)])) rfl (by rw [hml]; rfl) (argsL := [(.ref ou), (.int (Int32.ofNat ps.length))]) (rest := []) (lenOf own_pd5 rfl) rfl (by show 2 * 0 + _ ≤ _; exact Nat.le_of_eq rfl) (hb hby own_d_jdk_42_m56_12) (fun _ _ => ⟨rfl, e103, (by decide : 0 + 0 ≤ _), (by decide : 0 + 0 ≤ _)⟩)
  dsimp only [Pt.U, Pt.locs, Pt.cells, Pt.slots] at X104 l104 y104 z104 st104 hQ104
  subst l104 y104 z104
  obtain ⟨hv104, N104q, K104⟩ := hQ104
  subst hv104
  obtain ⟨h104, e104⟩ : ∃ z, T104.heap = z := ⟨_, rfl⟩
  rw [e104] at K104
  have Xo104 : Old Z n0 h104 := Xo101.keep K104 all0
  have KK104 : Keep h0 h104 [] := KK101.trans K104 all0
  have N104 := Fr.app N101 N104q
  refine own_to (V := T104.setTop (mkF m 15 #[.val (.ref oa), .val (.int (Int32.ofNat ps.length))] [(.int cc)])) ?_ st104
  exact own_retN X104 hx (t := .char) (w := cc) hret (by decide) (own_narC hcc) hlk (hb hby own_d_jdk_42_m56_15) (by rw [e104]; exact (⟨rfl, N104, KK104⟩)) (by decide) (by decide)
def own_Qch1 (Z : State) (oa : Addr) (ou : Addr) (kd : ClassId) (cs : List Int32) (ps : List Int32) (cc : Int32) (qs : List Int32) (h0 : Heap) (n0 : Nat) (v : Option Value) (h : Heap) (L : List Loc) : Prop := (v = some (.int cc) ∧ Fr n0 L ∧ Keep h0 h [])
theorem own_ef_ch1 (m : MethodId) (oa : Addr) (ps : List Int32)  : entryFrame m #[(.ref oa), (.int (Int32.ofNat ps.length))] 2 = mkF m 0 #[.val (.ref oa), .val (.int (Int32.ofNat ps.length))] [] := by first | (simp [entryFrame, mkF, argsToLocals, Value.category]; done) | rfl
set_option maxRecDepth 65536 in
set_option maxHeartbeats 40000000 in
theorem own_rmch1 (l : Launch) (Z : State) (a0 : Array Value) (hw : ∀ d ∈ tables_1, d.before a0 Z = true) (hst : own_St Z) (ws : List Jvm.Cond) (oa : Addr) (ou : Addr) (kd : ClassId) (cs : List Int32) (ps : List Int32) (cc : Int32) (qs : List Int32) (h0 : Heap) (n0 : Nat) (X00 : Old Z n0 h0) (hE : Exa Z h0 oa "java/lang/String") (hF : Fld Z h0 oa "java/lang/String" "value" "[B" (.ref ou)) (hC : Fld Z h0 oa "java/lang/String" "coder" "B" (.int (1 : Int32))) (hV : Arv Z h0 ou kd .byte (Int32.ofNat (2 * cs.length)) (StrChars.Road.wideBytes cs) (.int (0 : Int32))) (hcs : cs = ps ++ cc :: qs) (hcc : ¬ cc < 0 ∧ ¬ (65535 : Int32) < cc) (hl : cs.length ≤ 3) :
    MetFree l (⟨"java/lang/String", "charAt", "(I)C"⟩ : MethodName) (head1 (Jvm.Cond.code (⟨"java/lang/String", "charAt", "(I)C"⟩ : MethodName) jdk_42_method_56_code 2 (Option.some Jvm.ClassFile.FieldType.char) :: ws) ({ frames := 4, cells := 0, slots := 0, locals := 53 } : Room)) (fun a U => a = #[(.ref oa), (.int (Int32.ofNat ps.length))] ∧ Z.Warmed39 U.vm ∧ U.heap = h0) (fun _ _ _ _ _ => True) (fun _ U o U' => ∃ v L, o = .returned v ∧ own_Qch1 Z oa ou kd cs ps cc qs h0 n0 v U'.heap L ∧ FrameEnd U o U' L ({ frames := 4, cells := 0, slots := 0, locals := 53 } : Room).cells ({ frames := 4, cells := 0, slots := 0, locals := 53 } : Room).slots) := by
  refine MetFree.of_bodySF (plainFor_of_name own_pn1) hisR ?_
  intro p e s m args below meth c s₁ Bd hml0 hP hK
  obtain ⟨rfl, hZ, hh⟩ := hP
  have hx := Bd.exec
  have hby := Bd.bytes
  have hret := Bd.returns
  have hlk : meth.locks = false := BodyLoose.notSynchronized Bd
  have hml : c.maxLocals = 2 := hml0
  have hown : s.vm.findClass "java/lang/String" = some m.cls := findClass_of_methodNamed Bd.named
  have hnm := (name_of_methodNamed Bd.named Bd.method).1
  have X0 : Stand p l e ({ frames := 4, cells := 0, slots := 0, locals := 53 } : Room) s m #[(.ref oa), (.int (Int32.ofNat ps.length))] below meth c s₁ [] 0 0 := Stand.of_body Bd
  have e0 : s₁.heap = h0 := by rw [← hh, Bd.state]; rfl
  have N0 := Fr.nil n0
  have KK0 : Keep h0 h0 [] := Keep.refl h0 _
  refine own_start (own_Qch1 Z oa ou kd cs ps cc qs h0 n0) ?_
  refine own_to (V := s₁.setTop (mkF m 0 #[.val (.ref oa), .val (.int (Int32.ofNat ps.length))] [])) ?_ (fun t k => castTop (own_ef_ch1 m oa ps ) k)
  obtain ⟨⟨G1, O2, P5⟩, ⟨G3, O4, rG3⟩, ⟨uO1, uO2, uO3⟩, -⟩ := id hst
  refine own_to (V := s₁.setTop (mkF m 1 #[.val (.ref oa), .val (.int (Int32.ofNat ps.length))] [(.ref oa)])) ?_ fun t k => (by
    refine XS.aloadN X0.here hx rfl (hb hby own_d_jdk_42_m56_0) rfl rfl ?_
    exact k)
  obtain ⟨cq101, kq101, q101a, q101b, q101c⟩ := isOf hZ e0 hE
  obtain ⟨_, _, ⟨T101, L101, k101, n101⟩, -, X101, ⟨Lc101, hQ101, l101, y101, z101⟩, st101⟩ := X0.virtualBack hx (y := (⟨"java/lang/String", "isLatin1", "()Z"⟩ : MethodName)) (z := (⟨"java/lang/String", "isLatin1", "()Z"⟩ : MethodName)) hown (mvT hZ (hw _ (List.mem_of_getElem? (i := 96) rfl))) (mvT hZ (hw _ (List.mem_of_getElem? (i := 97) rfl))) (notFace_of_selects (args := #[]) (mvT hZ (hw _ (List.mem_of_getElem? (i := 99) rfl)))) (mvT hZ (hw _ (List.mem_of_getElem? (i := 99) rfl))) (mvT hZ (hw _ (List.mem_of_getElem? (i := 98) rfl))) (by decide) (backOf (W := 0) (own_rmisl1 l Z a0 hw hst [] oa h0 n0 X00 hC) hZ (hw _ (List.mem_of_getElem? (i := 100) rfl)) (hw _ (List.mem_of_getElem? (i := 8) rfl)) (by decide) (by decide)) q101a q101c (g := (mkF m 1 #[.val (.ref oa), .val (.int (Int32.ofNat ps.length))] [(.ref oa)])) rfl (by rw [hml]; rfl) (Steps.refl _) (argsL := []) (rest := []) (lenOf own_pd12 rfl) rfl (by show 2 * 0 + _ ≤ _; exact Nat.le_of_eq rfl) (hb hby own_d_jdk_42_m56_1) (fun _ _ => ⟨rfl, e0, (by decide : 0 + 0 ≤ _), (by decide : 0 + 0 ≤ _)⟩)
  dsimp only [Pt.U, Pt.locs, Pt.cells, Pt.slots] at X101 l101 y101 z101 st101 hQ101
  subst l101 y101 z101
  obtain ⟨hv101, N101q, K101⟩ := hQ101
  subst hv101
  obtain ⟨h101, e101⟩ : ∃ z, T101.heap = z := ⟨_, rfl⟩
  rw [e101] at K101
  have Xo101 : Old Z n0 h101 := X00.keep K101 all0
  have KK101 : Keep h0 h101 [] := KK0.trans K101 all0
  have N101 := Fr.app N0 N101q
  refine own_to (V := T101.setTop (mkF m 4 #[.val (.ref oa), .val (.int (Int32.ofNat ps.length))] [(.int (0 : Int32))])) ?_ (fun t k => st101.trans k)
  refine own_to (V := T101.setTop (mkF m 17 #[.val (.ref oa), .val (.int (Int32.ofNat ps.length))] [(.ref oa)])) ?_ fun t k => (by
    refine XS.ifYes X101.here hx rfl (pc0 := 4) (pc' := 16) rfl (hb hby own_d_jdk_42_m56_4) rfl ((if0 _ _).trans (teq ((by decide) : (0 : Int32) = (0 : Int32))).1) (by decide) (by decide) ?_
    refine XS.aloadN X101.here hx rfl (hb hby own_d_jdk_42_m56_16) rfl rfl ?_
    exact k)
  have F102 : Fld Z h101 oa "java/lang/String" "value" "[B" (.ref ou) := (hF.keep K101 List.not_mem_nil)
  obtain ⟨T103, X103, e103, st103⟩ := getF X101 hx hZ hown (host := "") (Or.inl (hw _ (List.mem_of_getElem? (i := 53) rfl))) Via.refl e101 F102 (g := (mkF m 17 #[.val (.ref oa), .val (.int (Int32.ofNat ps.length))] [(.ref oa)])) rfl rfl (hb hby own_d_jdk_42_m56_17)
  refine own_to (V := T103.setTop (mkF m 20 #[.val (.ref oa), .val (.int (Int32.ofNat ps.length))] [(.ref ou)])) ?_ st103
  refine own_to (V := T103.setTop (mkF m 21 #[.val (.ref oa), .val (.int (Int32.ofNat ps.length))] [(.int (Int32.ofNat ps.length)), (.ref ou)])) ?_ fun t k => (by
    refine XS.iloadN X103.here hx rfl (hb hby own_d_jdk_42_m56_20) rfl ?_
    exact k)
  have F105 : Arv Z h101 ou kd .byte (Int32.ofNat (2 * cs.length)) (StrChars.Road.wideBytes cs) (.int (0 : Int32)) := (hV.keep K101 List.not_mem_nil)
  obtain ⟨_, _, ⟨T104, L104, k104, n104⟩, -, X104, ⟨Lc104, hQ104, l104, y104, z104⟩, st104⟩ := Jvm.LawKit.callS X103 hx (y := (⟨"java/lang/StringUTF16", "charAt", "([BI)C"⟩ : MethodName)) hown (mvT hZ (hw _ (List.mem_of_getElem? (i := 101) rfl))) (mvT hZ (hw _ (List.mem_of_getElem? (i := 102) rfl))) (mvT hZ (hw _ (List.mem_of_getElem? (i := 23) rfl))) (mvT hZ (hw _ (List.mem_of_getElem? (i := 103) rfl))) (by decide) (backOf (W := 0) (own_rmuch l Z a0 hw hst [] ou kd cs ps cc qs h101 n0 Xo101 F105 hcs hcc hl) hZ (hw _ (List.mem_of_getElem? (i := 103) rfl)) (hw _ (List.mem_of_getElem? (i := 23) rfl)) (by decide) (by decide)) (g := (mkF m 21 #[.val (.ref oa), .val (.int (Int32.ofNat ps.length))] [(.int (Int32.ofNat ps.length)), (.ref ou)])) rfl (by rw [hml]; rfl) (argsL := [(.ref ou), (.int (Int32.ofNat ps.length))]) (rest := []) (lenOf own_pd5 rfl) rfl (by show 2 * 0 + _ ≤ _; exact Nat.le_of_eq rfl) (hb hby own_d_jdk_42_m56_21) (fun _ _ => ⟨rfl, e103, (by decide : 0 + 0 ≤ _), (by decide : 0 + 0 ≤ _)⟩)
  dsimp only [Pt.U, Pt.locs, Pt.cells, Pt.slots] at X104 l104 y104 z104 st104 hQ104
  subst l104 y104 z104
  obtain ⟨hv104, N104q, K104⟩ := hQ104
  subst hv104
  obtain ⟨h104, e104⟩ : ∃ z, T104.heap = z := ⟨_, rfl⟩
  rw [e104] at K104
  have Xo104 : Old Z n0 h104 := Xo101.keep K104 all0
  have KK104 : Keep h0 h104 [] := KK101.trans K104 all0
  have N104 := Fr.app N101 N104q
  refine own_to (V := T104.setTop (mkF m 24 #[.val (.ref oa), .val (.int (Int32.ofNat ps.length))] [(.int cc)])) ?_ st104
  exact own_retN X104 hx (t := .char) (w := cc) hret (by decide) (own_narC hcc) hlk (hb hby own_d_jdk_42_m56_24) (by rw [e104]; exact (⟨rfl, N104, KK104⟩)) (by decide) (by decide)
def own_Qchw (Z : State) (oa : Addr) (ou : Addr) (cs : List Int32) (ps : List Int32) (cc : Int32) (qs : List Int32) (h0 : Heap) (n0 : Nat) (v : Option Value) (h : Heap) (L : List Loc) : Prop := (v = some (.int cc) ∧ Fr n0 L ∧ Keep h0 h [])
theorem own_rmchw (l : Launch) (Z : State) (a0 : Array Value) (hw : ∀ d ∈ tables_1, d.before a0 Z = true) (hst : own_St Z) (ws : List Jvm.Cond) (oa : Addr) (ou : Addr) (cs : List Int32) (ps : List Int32) (cc : Int32) (qs : List Int32) (h0 : Heap) (n0 : Nat) (X00 : Old Z n0 h0) (hS : own_Str Z h0 oa ou cs) (hcs : cs = ps ++ cc :: qs) (hcc : ¬ cc < 0 ∧ ¬ (65535 : Int32) < cc) (hl : cs.length ≤ 3) :
    MetFree l (⟨"java/lang/String", "charAt", "(I)C"⟩ : MethodName) (head1 (Jvm.Cond.code (⟨"java/lang/String", "charAt", "(I)C"⟩ : MethodName) jdk_42_method_56_code 2 (Option.some Jvm.ClassFile.FieldType.char) :: ws) ({ frames := 4, cells := 0, slots := 0, locals := 53 } : Room)) (fun a U => a = #[(.ref oa), (.int (Int32.ofNat ps.length))] ∧ Z.Warmed39 U.vm ∧ U.heap = h0) (fun _ _ _ _ _ => True) (fun _ U o U' => ∃ v L, o = .returned v ∧ own_Qchw Z oa ou cs ps cc qs h0 n0 v U'.heap L ∧ FrameEnd U o U' L ({ frames := 4, cells := 0, slots := 0, locals := 53 } : Room).cells ({ frames := 4, cells := 0, slots := 0, locals := 53 } : Room).slots) := by
  obtain ⟨hE, cd, N, k, vs, f1, f2, f3, f4, f5, f6⟩ := hS
  rcases f4 with ⟨rfl, rfl, rfl, q⟩ | ⟨rfl, rfl, rfl, q⟩
  · exact own_rmch0 l Z a0 hw hst ws oa ou k cs ps cc qs h0 n0 X00 hE f1 f2 f3 hcs hcc hl (q cc (own_mem hcs))
  · exact own_rmch1 l Z a0 hw hst ws oa ou k cs ps cc qs h0 n0 X00 hE f1 f2 f3 hcs hcc hl
def own_QcanE (Z : State) (wc : Int32) (h0 : Heap) (n0 : Nat) (v : Option Value) (h : Heap) (L : List Loc) : Prop := (v = some (.int (1 : Int32)) ∧ Fr n0 L ∧ Keep h0 h [])
theorem own_ef_canE (m : MethodId) (wc : Int32)  : entryFrame m #[(.int wc)] 1 = mkF m 0 #[.val (.int wc)] [] := by first | (simp [entryFrame, mkF, argsToLocals, Value.category]; done) | rfl
set_option maxRecDepth 65536 in
set_option maxHeartbeats 40000000 in
theorem own_rmcanE (l : Launch) (Z : State) (a0 : Array Value) (hw : ∀ d ∈ tables_1, d.before a0 Z = true) (hst : own_St Z) (ws : List Jvm.Cond) (wc : Int32) (h0 : Heap) (n0 : Nat) (X00 : Old Z n0 h0) (hl : ¬ wc < 0 ∧ ¬ (255 : Int32) < wc) :
    MetFree l (⟨"java/lang/StringLatin1", "canEncode", "(C)Z"⟩ : MethodName) (head1 (Jvm.Cond.code (⟨"java/lang/StringLatin1", "canEncode", "(C)Z"⟩ : MethodName) jdk_43_method_3_code 1 (Option.some Jvm.ClassFile.FieldType.boolean) :: ws) ({ frames := 0, cells := 0, slots := 0, locals := 0 } : Room)) (fun a U => a = #[(.int wc)] ∧ Z.Warmed39 U.vm ∧ U.heap = h0) (fun _ _ _ _ _ => True) (fun _ U o U' => ∃ v L, o = .returned v ∧ own_QcanE Z wc h0 n0 v U'.heap L ∧ FrameEnd U o U' L ({ frames := 0, cells := 0, slots := 0, locals := 0 } : Room).cells ({ frames := 0, cells := 0, slots := 0, locals := 0 } : Room).slots) := by
  refine MetFree.of_bodySF (plainFor_of_name own_pn3) hisR ?_
  intro p e s m args below meth c s₁ Bd hml0 hP hK
  obtain ⟨rfl, hZ, hh⟩ := hP
  have hx := Bd.exec
  have hby := Bd.bytes
  have hret := Bd.returns
  have hlk : meth.locks = false := BodyLoose.notSynchronized Bd
  have hml : c.maxLocals = 1 := hml0
  have hown : s.vm.findClass "java/lang/StringLatin1" = some m.cls := findClass_of_methodNamed Bd.named
  have hnm := (name_of_methodNamed Bd.named Bd.method).1
  have X0 : Stand p l e ({ frames := 0, cells := 0, slots := 0, locals := 0 } : Room) s m #[(.int wc)] below meth c s₁ [] 0 0 := Stand.of_body Bd
  have e0 : s₁.heap = h0 := by rw [← hh, Bd.state]; rfl
  have N0 := Fr.nil n0
  have KK0 : Keep h0 h0 [] := Keep.refl h0 _
  refine own_start (own_QcanE Z wc h0 n0) ?_
  refine own_to (V := s₁.setTop (mkF m 0 #[.val (.int wc)] [])) ?_ (fun t k => castTop (own_ef_canE m wc ) k)
  obtain ⟨⟨G1, O2, P5⟩, ⟨G3, O4, rG3⟩, ⟨uO1, uO2, uO3⟩, -⟩ := id hst
  refine own_to (V := s₁.setTop (mkF m 12 #[.val (.int wc)] [(.int (1 : Int32))])) ?_ fun t k => (by
    refine XS.iloadN X0.here hx rfl (hb hby own_d_jdk_43_m3_0) rfl ?_
    refine XS.sipush X0.here hx rfl (hb hby own_d_jdk_43_m3_1) ?_
    refine XS.icmpNo X0.here hx rfl (hb hby own_d_jdk_43_m3_4) rfl (flt (hl.2 : ¬ ((255 : Int32) < wc))).2.2.1 ?_
    refine XS.iconst X0.here hx rfl (hb hby own_d_jdk_43_m3_7) ?_
    refine XS.goto X0.here hx rfl (pc0 := 8) (pc' := 12) rfl (hb hby own_d_jdk_43_m3_8) (by decide) (by decide) ?_
    exact k)
  exact own_retN X0 hx (t := .boolean) (w := (1 : Int32)) hret (by decide) rfl hlk (hb hby own_d_jdk_43_m3_12) (by rw [e0]; exact (⟨rfl, N0, KK0⟩)) (by decide) (by decide)
def own_Qtob (Z : State) (wc : Int32) (h0 : Heap) (n0 : Nat) (v : Option Value) (h : Heap) (L : List Loc) : Prop := (∃ (ob : Addr) (kb : ClassId), v = some (.ref ob) ∧ Fr n0 L ∧ Keep h0 h [] ∧ (h0.size ≤ ob) ∧ (Arv Z h ob kb .byte (1 : Int32) [(.int (wc.toInt8.toInt32))] (.int (0 : Int32))))
theorem own_ef_tob (m : MethodId) (wc : Int32)  : entryFrame m #[(.int wc)] 1 = mkF m 0 #[.val (.int wc)] [] := by first | (simp [entryFrame, mkF, argsToLocals, Value.category]; done) | rfl
set_option maxRecDepth 65536 in
set_option maxHeartbeats 40000000 in
theorem own_rmtob (l : Launch) (Z : State) (a0 : Array Value) (hw : ∀ d ∈ tables_1, d.before a0 Z = true) (hst : own_St Z) (ws : List Jvm.Cond) (wc : Int32) (h0 : Heap) (n0 : Nat) (X00 : Old Z n0 h0)  :
    MetFree l (⟨"java/lang/StringLatin1", "toBytes", "(C)[B"⟩ : MethodName) (head1 (Jvm.Cond.code (⟨"java/lang/StringLatin1", "toBytes", "(C)[B"⟩ : MethodName) jdk_43_method_46_code 1 (Option.some (Jvm.ClassFile.FieldType.array Jvm.ClassFile.FieldType.byte)) :: ws) ({ frames := 0, cells := 1, slots := 1, locals := 0 } : Room)) (fun a U => a = #[(.int wc)] ∧ Z.Warmed39 U.vm ∧ U.heap = h0) (fun _ _ _ _ _ => True) (fun _ U o U' => ∃ v L, o = .returned v ∧ own_Qtob Z wc h0 n0 v U'.heap L ∧ FrameEnd U o U' L ({ frames := 0, cells := 1, slots := 1, locals := 0 } : Room).cells ({ frames := 0, cells := 1, slots := 1, locals := 0 } : Room).slots) := by
  refine MetFree.of_bodySF (plainFor_of_name own_pn3) hisR ?_
  intro p e s m args below meth c s₁ Bd hml0 hP hK
  obtain ⟨rfl, hZ, hh⟩ := hP
  have hx := Bd.exec
  have hby := Bd.bytes
  have hret := Bd.returns
  have hlk : meth.locks = false := BodyLoose.notSynchronized Bd
  have hml : c.maxLocals = 1 := hml0
  have hown : s.vm.findClass "java/lang/StringLatin1" = some m.cls := findClass_of_methodNamed Bd.named
  have hnm := (name_of_methodNamed Bd.named Bd.method).1
  have X0 : Stand p l e ({ frames := 0, cells := 1, slots := 1, locals := 0 } : Room) s m #[(.int wc)] below meth c s₁ [] 0 0 := Stand.of_body Bd
  have e0 : s₁.heap = h0 := by rw [← hh, Bd.state]; rfl
  have N0 := Fr.nil n0
  have KK0 : Keep h0 h0 [] := Keep.refl h0 _
  refine own_start (own_Qtob Z wc h0 n0) ?_
  refine own_to (V := s₁.setTop (mkF m 0 #[.val (.int wc)] [])) ?_ (fun t k => castTop (own_ef_tob m wc ) k)
  obtain ⟨⟨G1, O2, P5⟩, ⟨G3, O4, rG3⟩, ⟨uO1, uO2, uO3⟩, -⟩ := id hst
  refine own_to (V := s₁.setTop (mkF m 1 #[.val (.int wc)] [(.int (1 : Int32))])) ?_ fun t k => (by
    refine XS.iconst X0.here hx rfl (hb hby own_d_jdk_43_m46_0) ?_
    exact k)
  obtain ⟨T101, h101, k101, X101, e101, E101, A101, st101⟩ := newP X0 hx hZ (hw _ (List.mem_of_getElem? (i := 25) rfl)) e0 (g := (mkF m 1 #[.val (.int wc)] [(.int (1 : Int32))])) rfl (hb hby own_d_jdk_43_m46_1) rfl (by decide) (cap := 1) (by decide) (by decide) (by decide) (by decide)
  obtain ⟨b101, g101⟩ : ∃ z, z = h0.size := ⟨_, rfl⟩
  rw [← g101] at A101 st101
  have Xo101 : Old Z n0 h101 := X00.ext E101
  have KK101 : Keep h0 h101 [] := KK0.ext E101
  have ge_b101 : n0 ≤ b101 := Nat.le_trans (own_ole X00) (Nat.le_of_eq g101.symm)
  have sz_b101 : h0.size ≤ b101 := Nat.le_trans KK0.1 (Nat.le_of_eq g101.symm)
  have V101 : Arv Z h101 b101 k101 .byte (1 : Int32) [(.int (0 : Int32))] (.int (0 : Int32)) := (Arv.new A101 (by decide)).pad (pad_rep [] (.int (0 : Int32)) 1)
  refine own_to (V := T101.setTop (mkF m 3 #[.val (.int wc)] [(.ref b101)])) ?_ st101
  refine own_to (V := T101.setTop (mkF m 7 #[.val (.int wc)] [(.int (wc.toInt8.toInt32)), (.int (0 : Int32)), (.ref b101), (.ref b101)])) ?_ fun t k => (by
    refine XS.dup X101.here hx rfl (hb hby own_d_jdk_43_m46_3) rfl rfl ?_
    refine XS.iconst X101.here hx rfl (hb hby own_d_jdk_43_m46_4) ?_
    refine XS.iloadN X101.here hx rfl (hb hby own_d_jdk_43_m46_5) rfl ?_
    refine XS.i2b X101.here hx rfl (hb hby own_d_jdk_43_m46_6) rfl ?_
    exact k)
  obtain ⟨cl102, Ar102, q102, S102, M102, H102, G102⟩ := id V101
  obtain ⟨T102, h102, X102, e102, W102, st102⟩ := stB X101 hx hZ e101 Ar102 (j := (0 : Int32)) (inb_of S102 ⟨by decide, by decide⟩) (g := (mkF m 7 #[.val (.int wc)] [(.int (wc.toInt8.toInt32)), (.int (0 : Int32)), (.ref b101), (.ref b101)])) rfl rfl (hb hby own_d_jdk_43_m46_7)
  rw [own_narB] at W102
  have Xo102 : Old Z n0 h102 := Xo101.wr W102 ge_b101
  have KK102 : Keep h0 h102 [] := KK101.wr W102 (Or.inr sz_b101)
  have V102 : Arv Z h102 b101 k101 .byte (1 : Int32) [(.int (wc.toInt8.toInt32))] (.int (0 : Int32)) := Arv.set Ar102 q102 S102 M102 H102 G102 (fits_nar_byte _) W102 0 rfl (Nat.le_of_ble_eq_true rfl)
  have N102 := Fr.snoc X102 N0 ge_b101
  refine own_to (V := T102.setTop (mkF m 8 #[.val (.int wc)] [(.ref b101)])) ?_ st102
  exact own_retR X102 hx hret (by decide) rfl hlk (hb hby own_d_jdk_43_m46_8) (by rw [e102]; exact (⟨b101, k101, rfl, N102, KK102, sz_b101, V102⟩)) (by decide) (by decide)
def own_Qsbb (Z : State) (ot : Addr) (ob : Addr) (h0 : Heap) (n0 : Nat) (v : Option Value) (h : Heap) (L : List Loc) : Prop := (v = none ∧ Fr n0 L ∧ Keep h0 h [ot] ∧ (Fld Z h ot "java/lang/String" "value" "[B" (.ref ob)) ∧ (Fld Z h ot "java/lang/String" "coder" "B" (.int (0 : Int32))))
theorem own_ef_sbb (m : MethodId) (ot : Addr) (ob : Addr)  : entryFrame m #[(.ref ot), (.ref ob), (.int (0 : Int32))] 3 = mkF m 0 #[.val (.ref ot), .val (.ref ob), .val (.int (0 : Int32))] [] := by first | (simp [entryFrame, mkF, argsToLocals, Value.category]; done) | rfl
set_option maxRecDepth 65536 in
set_option maxHeartbeats 40000000 in
theorem own_rmsbb (l : Launch) (Z : State) (a0 : Array Value) (hw : ∀ d ∈ tables_1, d.before a0 Z = true) (hst : own_St Z) (ws : List Jvm.Cond) (ot : Addr) (ob : Addr) (h0 : Heap) (n0 : Nat) (X00 : Old Z n0 h0) (hE : Exa Z h0 ot "java/lang/String") (hF1 : Fld Z h0 ot "java/lang/String" "value" "[B" .null) (hF2 : Fld Z h0 ot "java/lang/String" "coder" "B" (.int (0 : Int32))) (hG : n0 ≤ ot) :
    MetFree l (⟨"java/lang/String", "<init>", "([BB)V"⟩ : MethodName) (head1 (Jvm.Cond.code (⟨"java/lang/String", "<init>", "([BB)V"⟩ : MethodName) jdk_42_method_151_code 3 (Option.none : Option Jvm.ClassFile.FieldType) :: ws) ({ frames := 1, cells := 0, slots := 0, locals := 12 } : Room)) (fun a U => a = #[(.ref ot), (.ref ob), (.int (0 : Int32))] ∧ Z.Warmed39 U.vm ∧ U.heap = h0) (fun _ _ _ _ _ => True) (fun _ U o U' => ∃ v L, o = .returned v ∧ own_Qsbb Z ot ob h0 n0 v U'.heap L ∧ FrameEnd U o U' L ({ frames := 1, cells := 0, slots := 0, locals := 12 } : Room).cells ({ frames := 1, cells := 0, slots := 0, locals := 12 } : Room).slots) := by
  refine MetFree.of_bodySF (plainFor_of_name own_pn1) hisR ?_
  intro p e s m args below meth c s₁ Bd hml0 hP hK
  obtain ⟨rfl, hZ, hh⟩ := hP
  have hx := Bd.exec
  have hby := Bd.bytes
  have hret := Bd.returns
  have hlk : meth.locks = false := BodyLoose.notSynchronized Bd
  have hml : c.maxLocals = 3 := hml0
  have hown : s.vm.findClass "java/lang/String" = some m.cls := findClass_of_methodNamed Bd.named
  have hnm := (name_of_methodNamed Bd.named Bd.method).1
  have X0 : Stand p l e ({ frames := 1, cells := 0, slots := 0, locals := 12 } : Room) s m #[(.ref ot), (.ref ob), (.int (0 : Int32))] below meth c s₁ [] 0 0 := Stand.of_body Bd
  have e0 : s₁.heap = h0 := by rw [← hh, Bd.state]; rfl
  have N0 := Fr.nil n0
  have KK0 : Keep h0 h0 [ot] := Keep.refl h0 _
  refine own_start (own_Qsbb Z ot ob h0 n0) ?_
  refine own_to (V := s₁.setTop (mkF m 0 #[.val (.ref ot), .val (.ref ob), .val (.int (0 : Int32))] [])) ?_ (fun t k => castTop (own_ef_sbb m ot ob ) k)
  obtain ⟨⟨G1, O2, P5⟩, ⟨G3, O4, rG3⟩, ⟨uO1, uO2, uO3⟩, -⟩ := id hst
  refine own_to (V := s₁.setTop (mkF m 1 #[.val (.ref ot), .val (.ref ob), .val (.int (0 : Int32))] [(.ref ot)])) ?_ fun t k => (by
    refine XS.aloadN X0.here hx rfl (hb hby own_d_jdk_42_m151_0) rfl rfl ?_
    exact k)
  obtain ⟨T101, X101, e101, st101⟩ := initO X0 hx hZ hown (hw _ (List.mem_of_getElem? (i := 17) rfl)) (hw _ (List.mem_of_getElem? (i := 18) rfl)) (hw _ (List.mem_of_getElem? (i := 19) rfl)) e0 (g := (mkF m 1 #[.val (.ref ot), .val (.ref ob), .val (.int (0 : Int32))] [(.ref ot)])) rfl (by rw [hml]; rfl) rfl (hb hby own_d_jdk_42_m151_1) (by decide) (W := 0) (by show 2 * 0 + _ ≤ _; exact Nat.le_of_eq rfl) (by decide)
  refine own_to (V := T101.setTop (mkF m 4 #[.val (.ref ot), .val (.ref ob), .val (.int (0 : Int32))] [])) ?_ st101
  refine own_to (V := T101.setTop (mkF m 6 #[.val (.ref ot), .val (.ref ob), .val (.int (0 : Int32))] [(.ref ob), (.ref ot)])) ?_ fun t k => (by
    refine XS.aloadN X101.here hx rfl (hb hby own_d_jdk_42_m151_4) rfl rfl ?_
    refine XS.aloadN X101.here hx rfl (hb hby own_d_jdk_42_m151_5) rfl rfl ?_
    exact k)
  obtain ⟨T102, h102, X102, e102, W102, st102⟩ := putF X101 hx hZ hown (host := "") (Or.inl (hw _ (List.mem_of_getElem? (i := 53) rfl))) Via.refl e101 hF1 hE (Or.inr ⟨(hw _ (List.mem_of_getElem? (i := 54) rfl)), rfl, hnm⟩) (hw _ (List.mem_of_getElem? (i := 7) rfl)) (ty := (.array .byte)) (by decide) rfl rfl (g := (mkF m 6 #[.val (.ref ot), .val (.ref ob), .val (.int (0 : Int32))] [(.ref ob), (.ref ot)])) rfl rfl (hb hby own_d_jdk_42_m151_6)
  have Xo102 : Old Z n0 h102 := X00.wr W102 hG
  have KK102 : Keep h0 h102 [ot] := KK0.wr W102 (Or.inl (List.mem_of_getElem? (i := 0) rfl))
  have Fw102 : Fld Z h102 ot "java/lang/String" "value" "[B" (.ref ob) := hF1.same W102
  have N102 := Fr.snoc X102 N0 hG
  refine own_to (V := T102.setTop (mkF m 9 #[.val (.ref ot), .val (.ref ob), .val (.int (0 : Int32))] [])) ?_ st102
  refine own_to (V := T102.setTop (mkF m 11 #[.val (.ref ot), .val (.ref ob), .val (.int (0 : Int32))] [(.int (0 : Int32)), (.ref ot)])) ?_ fun t k => (by
    refine XS.aloadN X102.here hx rfl (hb hby own_d_jdk_42_m151_9) rfl rfl ?_
    refine XS.iloadN X102.here hx rfl (hb hby own_d_jdk_42_m151_10) rfl ?_
    exact k)
  have F103 : Exa Z h102 ot "java/lang/String" := (hE.wr W102)
  have F104 : Fld Z h102 ot "java/lang/String" "coder" "B" (.int (0 : Int32)) := (hF2.other W102 (Or.inr (slot_ne (Or.inr (hw _ (List.mem_of_getElem? (i := 52) rfl))) (Or.inr (hw _ (List.mem_of_getElem? (i := 54) rfl))) (by decide) (t := .byte) (t' := (.array .byte)) (by decide) (by decide))))
  obtain ⟨T105, h105, X105, e105, W105, st105⟩ := putF X102 hx hZ hown (host := "") (Or.inl (hw _ (List.mem_of_getElem? (i := 51) rfl))) Via.refl e102 F104 F103 (Or.inr ⟨(hw _ (List.mem_of_getElem? (i := 52) rfl)), rfl, hnm⟩) (hw _ (List.mem_of_getElem? (i := 7) rfl)) (ty := .byte) (by decide) rfl rfl (g := (mkF m 11 #[.val (.ref ot), .val (.ref ob), .val (.int (0 : Int32))] [(.int (0 : Int32)), (.ref ot)])) rfl rfl (hb hby own_d_jdk_42_m151_11)
  have Xo105 : Old Z n0 h105 := Xo102.wr W105 hG
  have KK105 : Keep h0 h105 [ot] := KK102.wr W105 (Or.inl (List.mem_of_getElem? (i := 0) rfl))
  have Fw105 : Fld Z h105 ot "java/lang/String" "coder" "B" (.int (0 : Int32)) := F104.same W105
  have N105 := Fr.snoc X105 N102 hG
  refine own_to (V := T105.setTop (mkF m 14 #[.val (.ref ot), .val (.ref ob), .val (.int (0 : Int32))] [])) ?_ st105
  have F106 : Fld Z h105 ot "java/lang/String" "value" "[B" (.ref ob) := (Fw102.other W105 (Or.inr (slot_ne (Or.inr (hw _ (List.mem_of_getElem? (i := 54) rfl))) (Or.inr (hw _ (List.mem_of_getElem? (i := 52) rfl))) (by decide) (t := (.array .byte)) (t' := .byte) (by decide) (by decide))))
  exact own_retV X105 hx hret hlk (hb hby own_d_jdk_42_m151_14) (by rw [e105]; exact (⟨rfl, N105, KK105, F106, Fw105⟩)) (by decide) (by decide)
def own_Qsval (Z : State) (wc : Int32) (h0 : Heap) (n0 : Nat) (v : Option Value) (h : Heap) (L : List Loc) : Prop := (∃ (oa : Addr) (ou : Addr), v = some (.ref oa) ∧ Fr n0 L ∧ Keep h0 h [] ∧ (h0.size ≤ oa) ∧ (h0.size ≤ ou) ∧ (oa ≠ ou) ∧ (own_Str Z h oa ou ([wc] : List Int32)))
theorem own_ef_sval (m : MethodId) (wc : Int32)  : entryFrame m #[(.int wc)] 1 = mkF m 0 #[.val (.int wc)] [] := by first | (simp [entryFrame, mkF, argsToLocals, Value.category]; done) | rfl
set_option maxRecDepth 65536 in
set_option maxHeartbeats 40000000 in
theorem own_rmsval (l : Launch) (Z : State) (a0 : Array Value) (hw : ∀ d ∈ tables_1, d.before a0 Z = true) (hst : own_St Z) (ws : List Jvm.Cond) (wc : Int32) (h0 : Heap) (n0 : Nat) (X00 : Old Z n0 h0) (hl : ¬ wc < 0 ∧ ¬ (255 : Int32) < wc) :
    MetFree l (⟨"java/lang/String", "valueOf", "(C)Ljava/lang/String;"⟩ : MethodName) (head1 (Jvm.Cond.code (⟨"java/lang/String", "valueOf", "(C)Ljava/lang/String;"⟩ : MethodName) jdk_42_method_139_code 1 (Option.some (Jvm.ClassFile.FieldType.object "java/lang/String")) :: ws) ({ frames := 2, cells := 2, slots := 5, locals := 27 } : Room)) (fun a U => a = #[(.int wc)] ∧ Z.Warmed39 U.vm ∧ U.heap = h0) (fun _ _ _ _ _ => True) (fun _ U o U' => ∃ v L, o = .returned v ∧ own_Qsval Z wc h0 n0 v U'.heap L ∧ FrameEnd U o U' L ({ frames := 2, cells := 2, slots := 5, locals := 27 } : Room).cells ({ frames := 2, cells := 2, slots := 5, locals := 27 } : Room).slots) := by
  refine MetFree.of_bodySF (plainFor_of_name own_pn1) hisR ?_
  intro p e s m args below meth c s₁ Bd hml0 hP hK
  obtain ⟨rfl, hZ, hh⟩ := hP
  have hx := Bd.exec
  have hby := Bd.bytes
  have hret := Bd.returns
  have hlk : meth.locks = false := BodyLoose.notSynchronized Bd
  have hml : c.maxLocals = 1 := hml0
  have hown : s.vm.findClass "java/lang/String" = some m.cls := findClass_of_methodNamed Bd.named
  have hnm := (name_of_methodNamed Bd.named Bd.method).1
  have X0 : Stand p l e ({ frames := 2, cells := 2, slots := 5, locals := 27 } : Room) s m #[(.int wc)] below meth c s₁ [] 0 0 := Stand.of_body Bd
  have e0 : s₁.heap = h0 := by rw [← hh, Bd.state]; rfl
  have N0 := Fr.nil n0
  have KK0 : Keep h0 h0 [] := Keep.refl h0 _
  refine own_start (own_Qsval Z wc h0 n0) ?_
  refine own_to (V := s₁.setTop (mkF m 0 #[.val (.int wc)] [])) ?_ (fun t k => castTop (own_ef_sval m wc ) k)
  obtain ⟨⟨G1, O2, P5⟩, ⟨G3, O4, rG3⟩, ⟨uO1, uO2, uO3⟩, -⟩ := id hst
  obtain ⟨T101, X101, e101, st101⟩ := getS2 X0 hx hZ hown (host := "") (Or.inl (hw _ (List.mem_of_getElem? (i := 20) rfl))) Via.refl e0 (O2.ext X00.2) (g := (mkF m 0 #[.val (.int wc)] [])) rfl (hb hby own_d_jdk_42_m139_0)
  refine own_to (V := T101.setTop (mkF m 3 #[.val (.int wc)] [(.int G1)])) ?_ st101
  refine own_to (V := T101.setTop (mkF m 7 #[.val (.int wc)] [(.int wc)])) ?_ fun t k => (by
    refine XS.ifNo X101.here hx rfl (hb hby own_d_jdk_42_m139_3) rfl ((if0 _ _).trans (feq (P5 : ¬ (G1 = (0 : Int32)))).1) ?_
    refine XS.iloadN X101.here hx rfl (hb hby own_d_jdk_42_m139_6) rfl ?_
    exact k)
  obtain ⟨_, _, ⟨T102, L102, k102, n102⟩, -, X102, ⟨Lc102, hQ102, l102, y102, z102⟩, st102⟩ := Jvm.LawKit.callS X101 hx (y := (⟨"java/lang/StringLatin1", "canEncode", "(C)Z"⟩ : MethodName)) hown (mvT hZ (hw _ (List.mem_of_getElem? (i := 58) rfl))) (mvT hZ (hw _ (List.mem_of_getElem? (i := 59) rfl))) (mvT hZ (hw _ (List.mem_of_getElem? (i := 60) rfl))) (mvT hZ (hw _ (List.mem_of_getElem? (i := 61) rfl))) (by decide) (backOf (W := 0) (own_rmcanE l Z a0 hw hst [] wc h0 n0 X00 hl) hZ (hw _ (List.mem_of_getElem? (i := 61) rfl)) (hw _ (List.mem_of_getElem? (i := 60) rfl)) (by decide) (by decide)) (g := (mkF m 7 #[.val (.int wc)] [(.int wc)])) rfl (by rw [hml]; rfl) (argsL := [(.int wc)]) (rest := []) (lenOf own_pd13 rfl) rfl (by show 2 * 0 + _ ≤ _; exact Nat.le_of_eq rfl) (hb hby own_d_jdk_42_m139_7) (fun _ _ => ⟨rfl, e101, (by decide : 0 + 0 ≤ _), (by decide : 0 + 0 ≤ _)⟩)
  dsimp only [Pt.U, Pt.locs, Pt.cells, Pt.slots] at X102 l102 y102 z102 st102 hQ102
  subst l102 y102 z102
  obtain ⟨hv102, N102q, K102⟩ := hQ102
  subst hv102
  obtain ⟨h102, e102⟩ : ∃ z, T102.heap = z := ⟨_, rfl⟩
  rw [e102] at K102
  have Xo102 : Old Z n0 h102 := X00.keep K102 all0
  have KK102 : Keep h0 h102 [] := KK0.trans K102 all0
  have N102 := Fr.app N0 N102q
  refine own_to (V := T102.setTop (mkF m 10 #[.val (.int wc)] [(.int (1 : Int32))])) ?_ st102
  refine own_to (V := T102.setTop (mkF m 13 #[.val (.int wc)] [])) ?_ fun t k => (by
    refine XS.ifNo X102.here hx rfl (hb hby own_d_jdk_42_m139_10) rfl ((if0 _ _).trans (feq ((by decide) : ¬ ((1 : Int32) = (0 : Int32)))).1) ?_
    exact k)
  obtain ⟨T103, h103, X103, e103, E103, A103, D103, U103, st103⟩ := newO X102 hx hZ hown (hw _ (List.mem_of_getElem? (i := 62) rfl)) (hw _ (List.mem_of_getElem? (i := 7) rfl)) (hw _ (List.mem_of_getElem? (i := 8) rfl)) e102 (g := (mkF m 13 #[.val (.int wc)] [])) rfl (hb hby own_d_jdk_42_m139_13) (by decide) (by decide)
  obtain ⟨b103, g103⟩ : ∃ z, z = h102.size := ⟨_, rfl⟩
  rw [← g103] at A103 D103 U103 st103
  have Xo103 : Old Z n0 h103 := Xo102.ext E103
  have KK103 : Keep h0 h103 [] := KK102.ext E103
  have ge_b103 : n0 ≤ b103 := Nat.le_trans (own_ole Xo102) (Nat.le_of_eq g103.symm)
  have sz_b103 : h0.size ≤ b103 := Nat.le_trans KK102.1 (Nat.le_of_eq g103.symm)
  have Fi103_52 : Fld Z h103 b103 "java/lang/String" "coder" "B" (.int (0 : Int32)) := D103 (Or.inr (hw _ (List.mem_of_getElem? (i := 52) rfl))) (ty := .byte) (by decide)
  have Fi103_54 : Fld Z h103 b103 "java/lang/String" "value" "[B" .null := D103 (Or.inr (hw _ (List.mem_of_getElem? (i := 54) rfl))) (ty := (.array .byte)) (by decide)
  refine own_to (V := T103.setTop (mkF m 16 #[.val (.int wc)] [(.ref b103)])) ?_ st103
  refine own_to (V := T103.setTop (mkF m 18 #[.val (.int wc)] [(.int wc), (.ref b103), (.ref b103)])) ?_ fun t k => (by
    refine XS.dup X103.here hx rfl (hb hby own_d_jdk_42_m139_16) rfl rfl ?_
    refine XS.iloadN X103.here hx rfl (hb hby own_d_jdk_42_m139_17) rfl ?_
    exact k)
  obtain ⟨_, _, ⟨T104, L104, k104, n104⟩, -, X104, ⟨Lc104, hQ104, l104, y104, z104⟩, st104⟩ := Jvm.LawKit.callS X103 hx (y := (⟨"java/lang/StringLatin1", "toBytes", "(C)[B"⟩ : MethodName)) hown (mvT hZ (hw _ (List.mem_of_getElem? (i := 63) rfl))) (mvT hZ (hw _ (List.mem_of_getElem? (i := 64) rfl))) (mvT hZ (hw _ (List.mem_of_getElem? (i := 60) rfl))) (mvT hZ (hw _ (List.mem_of_getElem? (i := 65) rfl))) (by decide) (backOf (W := 2) (own_rmtob l Z a0 hw hst [] wc h103 n0 Xo103 ) hZ (hw _ (List.mem_of_getElem? (i := 65) rfl)) (hw _ (List.mem_of_getElem? (i := 60) rfl)) (by decide) (by decide)) (g := (mkF m 18 #[.val (.int wc)] [(.int wc), (.ref b103), (.ref b103)])) rfl (by rw [hml]; rfl) (argsL := [(.int wc)]) (rest := [(.ref b103), (.ref b103)]) (lenOf own_pd14 rfl) rfl (by show 2 * 0 + _ ≤ _; exact Nat.le_of_eq rfl) (hb hby own_d_jdk_42_m139_18) (fun _ _ => ⟨rfl, e103, (by decide : 1 + 1 ≤ _), (by decide : 4 + 1 ≤ _)⟩)
  dsimp only [Pt.U, Pt.locs, Pt.cells, Pt.slots] at X104 l104 y104 z104 st104 hQ104
  subst l104 y104 z104
  obtain ⟨ob104, kb104, hv104, N104q, K104, g104_0, g104_1⟩ := hQ104
  subst hv104
  obtain ⟨h104, e104⟩ : ∃ z, T104.heap = z := ⟨_, rfl⟩
  rw [e104] at K104 g104_1
  have Xo104 : Old Z n0 h104 := Xo103.keep K104 all0
  have KK104 : Keep h0 h104 [] := KK103.trans K104 all0
  have N104 := Fr.app N102 N104q
  have ge_ob104 : n0 ≤ ob104 := Nat.le_trans (own_ole Xo103) g104_0
  have sz_ob104 : h0.size ≤ ob104 := Nat.le_trans KK103.1 g104_0
  refine own_to (V := T104.setTop (mkF m 21 #[.val (.int wc)] [(.ref ob104), (.ref b103), (.ref b103)])) ?_ st104
  refine own_to (V := T104.setTop (mkF m 22 #[.val (.int wc)] [(.int (0 : Int32)), (.ref ob104), (.ref b103), (.ref b103)])) ?_ fun t k => (by
    refine XS.iconst X104.here hx rfl (hb hby own_d_jdk_42_m139_21) ?_
    exact k)
  have F106 : Exa Z h104 b103 "java/lang/String" := (A103.keep K104)
  have F107 : Fld Z h104 b103 "java/lang/String" "value" "[B" .null := (Fi103_54.keep K104 List.not_mem_nil)
  have F108 : Fld Z h104 b103 "java/lang/String" "coder" "B" (.int (0 : Int32)) := (Fi103_52.keep K104 List.not_mem_nil)
  obtain ⟨_, _, ⟨T105, L105, k105, n105⟩, -, X105, ⟨Lc105, hQ105, l105, y105, z105⟩, st105⟩ := X104.specialBack hx (y := (⟨"java/lang/String", "<init>", "([BB)V"⟩ : MethodName)) rfl hown (mvT hZ (hw _ (List.mem_of_getElem? (i := 66) rfl))) (mvT hZ (hw _ (List.mem_of_getElem? (i := 67) rfl))) (mvT hZ (hw _ (List.mem_of_getElem? (i := 68) rfl))) (by decide) (backOf (W := 1) (own_rmsbb l Z a0 hw hst [] b103 ob104 h104 n0 Xo104 F106 F107 F108 ge_b103) hZ (hw _ (List.mem_of_getElem? (i := 68) rfl)) (hw _ (List.mem_of_getElem? (i := 8) rfl)) (by decide) (by decide)) (g := (mkF m 22 #[.val (.int wc)] [(.int (0 : Int32)), (.ref ob104), (.ref b103), (.ref b103)])) rfl (by rw [hml]; rfl) (Steps.refl _) (a := b103) (argsL := [(.ref ob104), (.int (0 : Int32))]) (rest := [(.ref b103)]) (lenOf own_pd15 rfl) rfl (by show 2 * 0 + _ ≤ _; exact Nat.le_of_eq rfl) (hb hby own_d_jdk_42_m139_22) (fun _ _ => ⟨rfl, e104, (by decide : 2 + 0 ≤ _), (by decide : 5 + 0 ≤ _)⟩)
  dsimp only [Pt.U, Pt.locs, Pt.cells, Pt.slots] at X105 l105 y105 z105 st105 hQ105
  subst l105 y105 z105
  obtain ⟨hv105, N105q, K105, g105_0, g105_1⟩ := hQ105
  subst hv105
  obtain ⟨h105, e105⟩ : ∃ z, T105.heap = z := ⟨_, rfl⟩
  rw [e105] at K105 g105_0 g105_1
  have Xo105 : Old Z n0 h105 := Xo104.keep K105 (allS ge_b103 all0)
  have KK105 : Keep h0 h105 [] := KK104.trans K105 (allS (Or.inr sz_b103) all0)
  have N105 := Fr.app N104 N105q
  refine own_to (V := T105.setTop (mkF m 25 #[.val (.int wc)] [(.ref b103)])) ?_ (fun t k => st105.trans k)
  have F110 : Exa Z h105 b103 "java/lang/String" := (F106.keep K105)
  have F111 : Arv Z h105 ob104 kb104 .byte (1 : Int32) [(.int (wc.toInt8.toInt32))] (.int (0 : Int32)) := (g104_1.keep K105 (own_nmS (Ne.symm (Nat.ne_of_lt (Nat.lt_of_lt_of_le A103.lt g104_0))) own_nm0))
  have Fs109 : own_Str Z h105 b103 ob104 ([wc] : List Int32) := own_mkStr0 F110 g105_0 g105_1 F111 rfl (own_allS hl own_all0) (Nat.le_of_ble_eq_true rfl)
  exact own_retR X105 hx hret (by decide) rfl hlk (hb hby own_d_jdk_42_m139_25) (by rw [e105]; exact (⟨b103, ob104, rfl, N105, KK105, sz_b103, sz_ob104, (Nat.ne_of_lt (Nat.lt_of_lt_of_le A103.lt g104_0)), Fs109⟩)) (by decide) (by decide)
def own_Qctl (Z : State) (wc : Int32) (h0 : Heap) (n0 : Nat) (v : Option Value) (h : Heap) (L : List Loc) : Prop := (v = some (.int (1 : Int32)) ∧ Fr n0 L ∧ Keep h0 h [] ∧ (own_ctl wc)) ∨ (v = some (.int (0 : Int32)) ∧ Fr n0 L ∧ Keep h0 h [] ∧ (¬ own_ctl wc))
theorem own_ef_ctl (m : MethodId) (wc : Int32)  : entryFrame m #[(.int wc)] 1 = mkF m 0 #[.val (.int wc)] [] := by first | (simp [entryFrame, mkF, argsToLocals, Value.category]; done) | rfl
set_option maxRecDepth 65536 in
set_option maxHeartbeats 40000000 in
theorem own_rmctl (l : Launch) (Z : State) (a0 : Array Value) (hw : ∀ d ∈ tables_1, d.before a0 Z = true) (hst : own_St Z) (ws : List Jvm.Cond) (wc : Int32) (h0 : Heap) (n0 : Nat) (X00 : Old Z n0 h0)  :
    MetFree l (⟨"com/example/turnwise/turnwise/input/IdsCheckPinLaw", "control", "(C)Z"⟩ : MethodName) (head1 (Jvm.Cond.code (⟨"com/example/turnwise/turnwise/input/IdsCheckPinLaw", "control", "(C)Z"⟩ : MethodName) method_2_code 1 (Option.some Jvm.ClassFile.FieldType.boolean) :: ws) ({ frames := 0, cells := 0, slots := 0, locals := 0 } : Room)) (fun a U => a = #[(.int wc)] ∧ Z.Warmed39 U.vm ∧ U.heap = h0) (fun _ _ _ _ _ => True) (fun _ U o U' => ∃ v L, o = .returned v ∧ own_Qctl Z wc h0 n0 v U'.heap L ∧ FrameEnd U o U' L ({ frames := 0, cells := 0, slots := 0, locals := 0 } : Room).cells ({ frames := 0, cells := 0, slots := 0, locals := 0 } : Room).slots) := by
  refine MetFree.of_bodySF (plainFor_of_name own_pn4) hisR ?_
  intro p e s m args below meth c s₁ Bd hml0 hP hK
  obtain ⟨rfl, hZ, hh⟩ := hP
  have hx := Bd.exec
  have hby := Bd.bytes
  have hret := Bd.returns
  have hlk : meth.locks = false := BodyLoose.notSynchronized Bd
  have hml : c.maxLocals = 1 := hml0
  have hown : s.vm.findClass "com/example/turnwise/turnwise/input/IdsCheckPinLaw" = some m.cls := findClass_of_methodNamed Bd.named
  have hnm := (name_of_methodNamed Bd.named Bd.method).1
  have X0 : Stand p l e ({ frames := 0, cells := 0, slots := 0, locals := 0 } : Room) s m #[(.int wc)] below meth c s₁ [] 0 0 := Stand.of_body Bd
  have e0 : s₁.heap = h0 := by rw [← hh, Bd.state]; rfl
  have N0 := Fr.nil n0
  have KK0 : Keep h0 h0 [] := Keep.refl h0 _
  refine own_start (own_Qctl Z wc h0 n0) ?_
  refine own_to (V := s₁.setTop (mkF m 0 #[.val (.int wc)] [])) ?_ (fun t k => castTop (own_ef_ctl m wc ) k)
  obtain ⟨⟨G1, O2, P5⟩, ⟨G3, O4, rG3⟩, ⟨uO1, uO2, uO3⟩, -⟩ := id hst
  refine own_to (V := s₁.setTop (mkF m 3 #[.val (.int wc)] [(.int (31 : Int32)), (.int wc)])) ?_ fun t k => (by
    refine XS.iloadN X0.here hx rfl (hb hby own_d_m2_0) rfl ?_
    refine XS.bipush X0.here hx rfl (hb hby own_d_m2_1) ?_
    exact k)
  by_cases hc3_101 : (31 : Int32) < wc
  · skip
    refine own_to (V := s₁.setTop (mkF m 9 #[.val (.int wc)] [(.int (127 : Int32)), (.int wc)])) ?_ fun t k => (by
      refine XS.icmpNo X0.here hx rfl (hb hby own_d_m2_3) rfl (tlt (hc3_101 : (31 : Int32) < wc)).2.2.2 ?_
      refine XS.iloadN X0.here hx rfl (hb hby own_d_m2_6) rfl ?_
      refine XS.bipush X0.here hx rfl (hb hby own_d_m2_7) ?_
      exact k)
    by_cases hc9_102 : wc < (127 : Int32)
    · skip
      refine own_to (V := s₁.setTop (mkF m 24 #[.val (.int wc)] [(.int (0 : Int32))])) ?_ fun t k => (by
        refine XS.icmpYes X0.here hx rfl (pc0 := 9) (pc' := 23) rfl (hb hby own_d_m2_9) rfl (tlt (hc9_102 : wc < (127 : Int32))).1 (by decide) (by decide) ?_
        refine XS.iconst X0.here hx rfl (hb hby own_d_m2_23) ?_
        exact k)
      exact own_retN X0 hx (t := .boolean) (w := (0 : Int32)) hret (by decide) rfl hlk (hb hby own_d_m2_24) (by rw [e0]; exact (Or.inr (⟨rfl, N0, KK0, (fun q => q.elim (fun r => r hc3_101) (fun r => r.1 hc9_102))⟩))) (by decide) (by decide)
    · skip
      refine own_to (V := s₁.setTop (mkF m 16 #[.val (.int wc)] [(.int (159 : Int32)), (.int wc)])) ?_ fun t k => (by
        refine XS.icmpNo X0.here hx rfl (hb hby own_d_m2_9) rfl (flt (hc9_102 : ¬ (wc < (127 : Int32)))).1 ?_
        refine XS.iloadN X0.here hx rfl (hb hby own_d_m2_12) rfl ?_
        refine XS.sipush X0.here hx rfl (hb hby own_d_m2_13) ?_
        exact k)
      by_cases hc16_103 : (159 : Int32) < wc
      · skip
        refine own_to (V := s₁.setTop (mkF m 24 #[.val (.int wc)] [(.int (0 : Int32))])) ?_ fun t k => (by
          refine XS.icmpYes X0.here hx rfl (pc0 := 16) (pc' := 23) rfl (hb hby own_d_m2_16) rfl (tlt (hc16_103 : (159 : Int32) < wc)).2.2.1 (by decide) (by decide) ?_
          refine XS.iconst X0.here hx rfl (hb hby own_d_m2_23) ?_
          exact k)
        exact own_retN X0 hx (t := .boolean) (w := (0 : Int32)) hret (by decide) rfl hlk (hb hby own_d_m2_24) (by rw [e0]; exact (Or.inr (⟨rfl, N0, KK0, (fun q => q.elim (fun r => r hc3_101) (fun r => r.2 hc16_103))⟩))) (by decide) (by decide)
      · skip
        refine own_to (V := s₁.setTop (mkF m 24 #[.val (.int wc)] [(.int (1 : Int32))])) ?_ fun t k => (by
          refine XS.icmpNo X0.here hx rfl (hb hby own_d_m2_16) rfl (flt (hc16_103 : ¬ ((159 : Int32) < wc))).2.2.1 ?_
          refine XS.iconst X0.here hx rfl (hb hby own_d_m2_19) ?_
          refine XS.goto X0.here hx rfl (pc0 := 20) (pc' := 24) rfl (hb hby own_d_m2_20) (by decide) (by decide) ?_
          exact k)
        exact own_retN X0 hx (t := .boolean) (w := (1 : Int32)) hret (by decide) rfl hlk (hb hby own_d_m2_24) (by rw [e0]; exact (Or.inl ⟨rfl, N0, KK0, (Or.inr ⟨hc9_102, hc16_103⟩)⟩)) (by decide) (by decide)
  · skip
    refine own_to (V := s₁.setTop (mkF m 24 #[.val (.int wc)] [(.int (1 : Int32))])) ?_ fun t k => (by
      refine XS.icmpYes X0.here hx rfl (pc0 := 3) (pc' := 19) rfl (hb hby own_d_m2_3) rfl (flt (hc3_101 : ¬ ((31 : Int32) < wc))).2.2.2 (by decide) (by decide) ?_
      refine XS.iconst X0.here hx rfl (hb hby own_d_m2_19) ?_
      refine XS.goto X0.here hx rfl (pc0 := 20) (pc' := 24) rfl (hb hby own_d_m2_20) (by decide) (by decide) ?_
      exact k)
    exact own_retN X0 hx (t := .boolean) (w := (1 : Int32)) hret (by decide) rfl hlk (hb hby own_d_m2_24) (by rw [e0]; exact (Or.inl ⟨rfl, N0, KK0, (Or.inl hc3_101)⟩)) (by decide) (by decide)
def own_Qiso (Z : State) (wc : Int32) (h0 : Heap) (n0 : Nat) (v : Option Value) (h : Heap) (L : List Loc) : Prop := (v = some (.int (1 : Int32)) ∧ Fr n0 L ∧ Keep h0 h [] ∧ (own_ctl wc)) ∨ (v = some (.int (0 : Int32)) ∧ Fr n0 L ∧ Keep h0 h [] ∧ (¬ own_ctl wc))
theorem own_ef_iso (m : MethodId) (wc : Int32)  : entryFrame m #[(.int wc)] 1 = mkF m 0 #[.val (.int wc)] [] := by first | (simp [entryFrame, mkF, argsToLocals, Value.category]; done) | rfl
set_option maxRecDepth 65536 in
set_option maxHeartbeats 40000000 in
theorem own_rmiso (l : Launch) (Z : State) (a0 : Array Value) (hw : ∀ d ∈ tables_1, d.before a0 Z = true) (hst : own_St Z) (ws : List Jvm.Cond) (wc : Int32) (h0 : Heap) (n0 : Nat) (X00 : Old Z n0 h0) (hr : ¬ wc < 0 ∧ ¬ (65535 : Int32) < wc) :
    MetFree l (⟨"java/lang/Character", "isISOControl", "(I)Z"⟩ : MethodName) (head1 (Jvm.Cond.code (⟨"java/lang/Character", "isISOControl", "(I)Z"⟩ : MethodName) jdk_89_method_89_code 1 (Option.some Jvm.ClassFile.FieldType.boolean) :: ws) ({ frames := 0, cells := 0, slots := 0, locals := 0 } : Room)) (fun a U => a = #[(.int wc)] ∧ Z.Warmed39 U.vm ∧ U.heap = h0) (fun _ _ _ _ _ => True) (fun _ U o U' => ∃ v L, o = .returned v ∧ own_Qiso Z wc h0 n0 v U'.heap L ∧ FrameEnd U o U' L ({ frames := 0, cells := 0, slots := 0, locals := 0 } : Room).cells ({ frames := 0, cells := 0, slots := 0, locals := 0 } : Room).slots) := by
  refine MetFree.of_bodySF (plainFor_of_name own_pn5) hisR ?_
  intro p e s m args below meth c s₁ Bd hml0 hP hK
  obtain ⟨rfl, hZ, hh⟩ := hP
  have hx := Bd.exec
  have hby := Bd.bytes
  have hret := Bd.returns
  have hlk : meth.locks = false := BodyLoose.notSynchronized Bd
  have hml : c.maxLocals = 1 := hml0
  have hown : s.vm.findClass "java/lang/Character" = some m.cls := findClass_of_methodNamed Bd.named
  have hnm := (name_of_methodNamed Bd.named Bd.method).1
  have X0 : Stand p l e ({ frames := 0, cells := 0, slots := 0, locals := 0 } : Room) s m #[(.int wc)] below meth c s₁ [] 0 0 := Stand.of_body Bd
  have e0 : s₁.heap = h0 := by rw [← hh, Bd.state]; rfl
  have N0 := Fr.nil n0
  have KK0 : Keep h0 h0 [] := Keep.refl h0 _
  refine own_start (own_Qiso Z wc h0 n0) ?_
  refine own_to (V := s₁.setTop (mkF m 0 #[.val (.int wc)] [])) ?_ (fun t k => castTop (own_ef_iso m wc ) k)
  obtain ⟨⟨G1, O2, P5⟩, ⟨G3, O4, rG3⟩, ⟨uO1, uO2, uO3⟩, -⟩ := id hst
  refine own_to (V := s₁.setTop (mkF m 4 #[.val (.int wc)] [(.int (159 : Int32)), (.int wc)])) ?_ fun t k => (by
    refine XS.iloadN X0.here hx rfl (hb hby own_d_jdk_89_m89_0) rfl ?_
    refine XS.sipush X0.here hx rfl (hb hby own_d_jdk_89_m89_1) ?_
    exact k)
  by_cases hc4_101 : (159 : Int32) < wc
  · skip
    refine own_to (V := s₁.setTop (mkF m 24 #[.val (.int wc)] [(.int (0 : Int32))])) ?_ fun t k => (by
      refine XS.icmpYes X0.here hx rfl (pc0 := 4) (pc' := 23) rfl (hb hby own_d_jdk_89_m89_4) rfl (tlt (hc4_101 : (159 : Int32) < wc)).2.2.1 (by decide) (by decide) ?_
      refine XS.iconst X0.here hx rfl (hb hby own_d_jdk_89_m89_23) ?_
      exact k)
    exact own_retN X0 hx (t := .boolean) (w := (0 : Int32)) hret (by decide) rfl hlk (hb hby own_d_jdk_89_m89_24) (by rw [e0]; exact (Or.inr (⟨rfl, N0, KK0, (fun q => q.elim (fun r => r (own_big hc4_101)) (fun r => r.2 hc4_101))⟩))) (by decide) (by decide)
  · skip
    refine own_to (V := s₁.setTop (mkF m 10 #[.val (.int wc)] [(.int (127 : Int32)), (.int wc)])) ?_ fun t k => (by
      refine XS.icmpNo X0.here hx rfl (hb hby own_d_jdk_89_m89_4) rfl (flt (hc4_101 : ¬ ((159 : Int32) < wc))).2.2.1 ?_
      refine XS.iloadN X0.here hx rfl (hb hby own_d_jdk_89_m89_7) rfl ?_
      refine XS.bipush X0.here hx rfl (hb hby own_d_jdk_89_m89_8) ?_
      exact k)
    by_cases hc10_102 : wc < (127 : Int32)
    · skip
      refine own_to (V := s₁.setTop (mkF m 16 #[.val (.int wc)] [(.int ((wc.toUInt32 >>> ((5 : Int32) &&& 31).toUInt32).toInt32))])) ?_ fun t k => (by
        refine XS.icmpNo X0.here hx rfl (hb hby own_d_jdk_89_m89_10) rfl (tlt (hc10_102 : wc < (127 : Int32))).2.1 ?_
        refine XS.iloadN X0.here hx rfl (hb hby own_d_jdk_89_m89_13) rfl ?_
        refine XS.iconst X0.here hx rfl (hb hby own_d_jdk_89_m89_14) ?_
        refine XS.iushr X0.here hx rfl (hb hby own_d_jdk_89_m89_15) rfl ?_
        exact k)
      by_cases hc16_103 : ((wc.toUInt32 >>> ((5 : Int32) &&& 31).toUInt32).toInt32) = (0 : Int32)
      · skip
        refine own_to (V := s₁.setTop (mkF m 24 #[.val (.int wc)] [(.int (1 : Int32))])) ?_ fun t k => (by
          refine XS.ifNo X0.here hx rfl (hb hby own_d_jdk_89_m89_16) rfl ((if0 _ _).trans (teq (hc16_103 : ((wc.toUInt32 >>> ((5 : Int32) &&& 31).toUInt32).toInt32) = (0 : Int32))).2) ?_
          refine XS.iconst X0.here hx rfl (hb hby own_d_jdk_89_m89_19) ?_
          refine XS.goto X0.here hx rfl (pc0 := 20) (pc' := 24) rfl (hb hby own_d_jdk_89_m89_20) (by decide) (by decide) ?_
          exact k)
        exact own_retN X0 hx (t := .boolean) (w := (1 : Int32)) hret (by decide) rfl hlk (hb hby own_d_jdk_89_m89_24) (by rw [e0]; exact (Or.inl ⟨rfl, N0, KK0, (Or.inl ((own_iso5 hr).mp hc16_103))⟩)) (by decide) (by decide)
      · skip
        refine own_to (V := s₁.setTop (mkF m 24 #[.val (.int wc)] [(.int (0 : Int32))])) ?_ fun t k => (by
          refine XS.ifYes X0.here hx rfl (pc0 := 16) (pc' := 23) rfl (hb hby own_d_jdk_89_m89_16) rfl ((if0 _ _).trans (feq (hc16_103 : ¬ (((wc.toUInt32 >>> ((5 : Int32) &&& 31).toUInt32).toInt32) = (0 : Int32)))).2) (by decide) (by decide) ?_
          refine XS.iconst X0.here hx rfl (hb hby own_d_jdk_89_m89_23) ?_
          exact k)
        exact own_retN X0 hx (t := .boolean) (w := (0 : Int32)) hret (by decide) rfl hlk (hb hby own_d_jdk_89_m89_24) (by rw [e0]; exact (Or.inr (⟨rfl, N0, KK0, (fun q => q.elim (fun r => hc16_103 ((own_iso5 hr).mpr r)) (fun r => r.1 hc10_102))⟩))) (by decide) (by decide)
    · skip
      refine own_to (V := s₁.setTop (mkF m 24 #[.val (.int wc)] [(.int (1 : Int32))])) ?_ fun t k => (by
        refine XS.icmpYes X0.here hx rfl (pc0 := 10) (pc' := 19) rfl (hb hby own_d_jdk_89_m89_10) rfl (flt (hc10_102 : ¬ (wc < (127 : Int32)))).2.1 (by decide) (by decide) ?_
        refine XS.iconst X0.here hx rfl (hb hby own_d_jdk_89_m89_19) ?_
        refine XS.goto X0.here hx rfl (pc0 := 20) (pc' := 24) rfl (hb hby own_d_jdk_89_m89_20) (by decide) (by decide) ?_
        exact k)
      exact own_retN X0 hx (t := .boolean) (w := (1 : Int32)) hret (by decide) rfl hlk (hb hby own_d_jdk_89_m89_24) (by rw [e0]; exact (Or.inl ⟨rfl, N0, KK0, (Or.inr ⟨hc10_102, hc4_101⟩)⟩)) (by decide) (by decide)
def own_Qisoc (Z : State) (wc : Int32) (h0 : Heap) (n0 : Nat) (v : Option Value) (h : Heap) (L : List Loc) : Prop := (v = some (.int (1 : Int32)) ∧ Fr n0 L ∧ Keep h0 h [] ∧ (own_ctl wc)) ∨ (v = some (.int (0 : Int32)) ∧ Fr n0 L ∧ Keep h0 h [] ∧ (¬ own_ctl wc))
theorem own_ef_isoc (m : MethodId) (wc : Int32)  : entryFrame m #[(.int wc)] 1 = mkF m 0 #[.val (.int wc)] [] := by first | (simp [entryFrame, mkF, argsToLocals, Value.category]; done) | rfl
set_option maxRecDepth 65536 in
set_option maxHeartbeats 40000000 in
theorem own_rmisoc (l : Launch) (Z : State) (a0 : Array Value) (hw : ∀ d ∈ tables_1, d.before a0 Z = true) (hst : own_St Z) (ws : List Jvm.Cond) (wc : Int32) (h0 : Heap) (n0 : Nat) (X00 : Old Z n0 h0) (hr : ¬ wc < 0 ∧ ¬ (65535 : Int32) < wc) :
    MetFree l (⟨"java/lang/Character", "isISOControl", "(C)Z"⟩ : MethodName) (head1 (Jvm.Cond.code (⟨"java/lang/Character", "isISOControl", "(C)Z"⟩ : MethodName) jdk_89_method_88_code 1 (Option.some Jvm.ClassFile.FieldType.boolean) :: ws) ({ frames := 1, cells := 0, slots := 0, locals := 12 } : Room)) (fun a U => a = #[(.int wc)] ∧ Z.Warmed39 U.vm ∧ U.heap = h0) (fun _ _ _ _ _ => True) (fun _ U o U' => ∃ v L, o = .returned v ∧ own_Qisoc Z wc h0 n0 v U'.heap L ∧ FrameEnd U o U' L ({ frames := 1, cells := 0, slots := 0, locals := 12 } : Room).cells ({ frames := 1, cells := 0, slots := 0, locals := 12 } : Room).slots) := by
  refine MetFree.of_bodySF (plainFor_of_name own_pn5) hisR ?_
  intro p e s m args below meth c s₁ Bd hml0 hP hK
  obtain ⟨rfl, hZ, hh⟩ := hP
  have hx := Bd.exec
  have hby := Bd.bytes
  have hret := Bd.returns
  have hlk : meth.locks = false := BodyLoose.notSynchronized Bd
  have hml : c.maxLocals = 1 := hml0
  have hown : s.vm.findClass "java/lang/Character" = some m.cls := findClass_of_methodNamed Bd.named
  have hnm := (name_of_methodNamed Bd.named Bd.method).1
  have X0 : Stand p l e ({ frames := 1, cells := 0, slots := 0, locals := 12 } : Room) s m #[(.int wc)] below meth c s₁ [] 0 0 := Stand.of_body Bd
  have e0 : s₁.heap = h0 := by rw [← hh, Bd.state]; rfl
  have N0 := Fr.nil n0
  have KK0 : Keep h0 h0 [] := Keep.refl h0 _
  refine own_start (own_Qisoc Z wc h0 n0) ?_
  refine own_to (V := s₁.setTop (mkF m 0 #[.val (.int wc)] [])) ?_ (fun t k => castTop (own_ef_isoc m wc ) k)
  obtain ⟨⟨G1, O2, P5⟩, ⟨G3, O4, rG3⟩, ⟨uO1, uO2, uO3⟩, -⟩ := id hst
  refine own_to (V := s₁.setTop (mkF m 1 #[.val (.int wc)] [(.int wc)])) ?_ fun t k => (by
    refine XS.iloadN X0.here hx rfl (hb hby own_d_jdk_89_m88_0) rfl ?_
    exact k)
  obtain ⟨_, _, ⟨T101, L101, k101, n101⟩, -, X101, ⟨Lc101, hQ101, l101, y101, z101⟩, st101⟩ := Jvm.LawKit.callS X0 hx (y := (⟨"java/lang/Character", "isISOControl", "(I)Z"⟩ : MethodName)) hown (mvT hZ (hw _ (List.mem_of_getElem? (i := 122) rfl))) (mvT hZ (hw _ (List.mem_of_getElem? (i := 123) rfl))) (mvT hZ (hw _ (List.mem_of_getElem? (i := 120) rfl))) (mvT hZ (hw _ (List.mem_of_getElem? (i := 124) rfl))) (by decide) (backOf (W := 0) (own_rmiso l Z a0 hw hst [] wc h0 n0 X00 hr) hZ (hw _ (List.mem_of_getElem? (i := 124) rfl)) (hw _ (List.mem_of_getElem? (i := 120) rfl)) (by decide) (by decide)) (g := (mkF m 1 #[.val (.int wc)] [(.int wc)])) rfl (by rw [hml]; rfl) (argsL := [(.int wc)]) (rest := []) (lenOf own_pd16 rfl) rfl (by show 2 * 0 + _ ≤ _; exact Nat.le_of_eq rfl) (hb hby own_d_jdk_89_m88_1) (fun _ _ => ⟨rfl, e0, (by decide : 0 + 0 ≤ _), (by decide : 0 + 0 ≤ _)⟩)
  dsimp only [Pt.U, Pt.locs, Pt.cells, Pt.slots] at X101 l101 y101 z101 st101 hQ101
  subst l101 y101 z101
  rcases hQ101 with ⟨hv101, N101q, K101, g101_0⟩ | ⟨hv101, N101q, K101, g101_0⟩
  · skip
    subst hv101
    obtain ⟨h101, e101⟩ : ∃ z, T101.heap = z := ⟨_, rfl⟩
    rw [e101] at K101
    have Xo101 : Old Z n0 h101 := X00.keep K101 all0
    have KK101 : Keep h0 h101 [] := KK0.trans K101 all0
    have N101 := Fr.app N0 N101q
    refine own_to (V := T101.setTop (mkF m 4 #[.val (.int wc)] [(.int (1 : Int32))])) ?_ st101
    exact own_retN X101 hx (t := .boolean) (w := (1 : Int32)) hret (by decide) rfl hlk (hb hby own_d_jdk_89_m88_4) (by rw [e101]; exact (Or.inl ⟨rfl, N101, KK101, g101_0⟩)) (by decide) (by decide)
  · skip
    subst hv101
    obtain ⟨h101, e101⟩ : ∃ z, T101.heap = z := ⟨_, rfl⟩
    rw [e101] at K101
    have Xo101 : Old Z n0 h101 := X00.keep K101 all0
    have KK101 : Keep h0 h101 [] := KK0.trans K101 all0
    have N101 := Fr.app N0 N101q
    refine own_to (V := T101.setTop (mkF m 4 #[.val (.int wc)] [(.int (0 : Int32))])) ?_ st101
    exact own_retN X101 hx (t := .boolean) (w := (0 : Int32)) hret (by decide) rfl hlk (hb hby own_d_jdk_89_m88_4) (by rw [e101]; exact (Or.inr (⟨rfl, N101, KK101, g101_0⟩))) (by decide) (by decide)
def own_Qisid1 (Z : State) (oa : Addr) (ou : Addr) (w0 : Int32) (h0 : Heap) (n0 : Nat) (v : Option Value) (h : Heap) (L : List Loc) : Prop := (v = some (.int (1 : Int32)) ∧ Fr n0 L ∧ Keep h0 h [] ∧ (¬ own_ctl w0)) ∨ (v = some (.int (0 : Int32)) ∧ Fr n0 L ∧ Keep h0 h [] ∧ (own_ctl w0))
theorem own_ef_isid1 (m : MethodId) (oa : Addr)  : entryFrame m #[(.ref oa)] 3 = mkF m 0 #[.val (.ref oa), .unset, .unset] [] := by first | (simp [entryFrame, mkF, argsToLocals, Value.category]; done) | rfl
set_option maxRecDepth 65536 in
set_option maxHeartbeats 40000000 in
theorem own_rmisid1 (l : Launch) (Z : State) (a0 : Array Value) (hw : ∀ d ∈ tables_1, d.before a0 Z = true) (hst : own_St Z) (ws : List Jvm.Cond) (oa : Addr) (ou : Addr) (w0 : Int32) (h0 : Heap) (n0 : Nat) (X00 : Old Z n0 h0) (hS : own_Str Z h0 oa ou ([w0] : List Int32)) (hr0 : ¬ w0 < 0 ∧ ¬ (65535 : Int32) < w0) :
    MetFree l (⟨"com/example/turnwise/turnwise/input/Ids", "isId", "(Ljava/lang/String;)Z"⟩ : MethodName) (head1 (Jvm.Cond.code (⟨"com/example/turnwise/turnwise/input/Ids", "isId", "(Ljava/lang/String;)Z"⟩ : MethodName) prog_28_method_3_code 3 (Option.some Jvm.ClassFile.FieldType.boolean) :: ws) ({ frames := 5, cells := 0, slots := 0, locals := 66 } : Room)) (fun a U => a = #[(.ref oa)] ∧ Z.Warmed39 U.vm ∧ U.heap = h0) (fun _ _ _ _ _ => True) (fun _ U o U' => ∃ v L, o = .returned v ∧ own_Qisid1 Z oa ou w0 h0 n0 v U'.heap L ∧ FrameEnd U o U' L ({ frames := 5, cells := 0, slots := 0, locals := 66 } : Room).cells ({ frames := 5, cells := 0, slots := 0, locals := 66 } : Room).slots) := by
  refine MetFree.of_bodySF (plainFor_of_name own_pn6) hisR ?_
  intro p e s m args below meth c s₁ Bd hml0 hP hK
  obtain ⟨rfl, hZ, hh⟩ := hP
  have hx := Bd.exec
  have hby := Bd.bytes
  have hret := Bd.returns
  have hlk : meth.locks = false := BodyLoose.notSynchronized Bd
  have hml : c.maxLocals = 3 := hml0
  have hown : s.vm.findClass "com/example/turnwise/turnwise/input/Ids" = some m.cls := findClass_of_methodNamed Bd.named
  have hnm := (name_of_methodNamed Bd.named Bd.method).1
  have X0 : Stand p l e ({ frames := 5, cells := 0, slots := 0, locals := 66 } : Room) s m #[(.ref oa)] below meth c s₁ [] 0 0 := Stand.of_body Bd
  have e0 : s₁.heap = h0 := by rw [← hh, Bd.state]; rfl
  have N0 := Fr.nil n0
  have KK0 : Keep h0 h0 [] := Keep.refl h0 _
  refine own_start (own_Qisid1 Z oa ou w0 h0 n0) ?_
  refine own_to (V := s₁.setTop (mkF m 0 #[.val (.ref oa), .unset, .unset] [])) ?_ (fun t k => castTop (own_ef_isid1 m oa ) k)
  obtain ⟨⟨G1, O2, P5⟩, ⟨G3, O4, rG3⟩, ⟨uO1, uO2, uO3⟩, -⟩ := id hst
  refine own_to (V := s₁.setTop (mkF m 1 #[.val (.ref oa), .unset, .unset] [(.ref oa)])) ?_ fun t k => (by
    refine XS.aloadN X0.here hx rfl (hb hby own_d_prog_28_m3_0) rfl rfl ?_
    exact k)
  obtain ⟨sE102, sd102, sN102, sk102, sv102, sV102, sC102, sK102, sc102, sb102, sl102⟩ := id hS
  obtain ⟨cq101, kq101, q101a, q101b, q101c⟩ := isOf hZ e0 hS.1
  obtain ⟨_, _, ⟨T101, L101, k101, n101⟩, -, X101, ⟨Lc101, hQ101, l101, y101, z101⟩, st101⟩ := X0.virtualBack hx (y := (⟨"java/lang/String", "isEmpty", "()Z"⟩ : MethodName)) (z := (⟨"java/lang/String", "isEmpty", "()Z"⟩ : MethodName)) hown (mvT hZ (hw _ (List.mem_of_getElem? (i := 76) rfl))) (mvT hZ (hw _ (List.mem_of_getElem? (i := 77) rfl))) (notFace_of_selects (args := #[]) (mvT hZ (hw _ (List.mem_of_getElem? (i := 79) rfl)))) (mvT hZ (hw _ (List.mem_of_getElem? (i := 79) rfl))) (mvT hZ (hw _ (List.mem_of_getElem? (i := 78) rfl))) (by decide) (StrChars.Road.empW (W := 0) hZ (own_hem hw) (kI := 4) (hw _ (List.mem_of_getElem? (i := 7) rfl)) sE102 sV102 sC102 sK102 sc102 sb102 sl102 (by decide) (by decide)) q101a q101c (g := (mkF m 1 #[.val (.ref oa), .unset, .unset] [(.ref oa)])) rfl (by rw [hml]; rfl) (Steps.refl _) (argsL := []) (rest := []) (lenOf own_pd12 rfl) rfl (by show 2 * 0 + _ ≤ _; exact Nat.le_of_eq rfl) (hb hby own_d_prog_28_m3_1) (fun _ _ => ⟨rfl, e0, (by decide : 0 + 0 ≤ _), (by decide : 0 + 0 ≤ _)⟩)
  dsimp only [Pt.U, Pt.locs, Pt.cells, Pt.slots] at X101 l101 y101 z101 st101 hQ101
  subst l101 y101 z101
  obtain ⟨hv101, hL101, hh101⟩ := hQ101
  subst hL101
  have N101 := Fr.app N0 (Fr.nil n0)
  subst hv101
  refine own_to (V := T101.setTop (mkF m 4 #[.val (.ref oa), .unset, .unset] [(.int (0 : Int32))])) ?_ (fun t k => st101.trans k)
  refine own_to (V := T101.setTop (mkF m 21 #[.val (.ref oa), .val (.int (1 : Int32)), .val (.int (0 : Int32))] [(.ref oa), (.int (0 : Int32))])) ?_ fun t k => (by
    refine XS.ifNo X101.here hx rfl (hb hby own_d_prog_28_m3_4) rfl ((if0 _ _).trans (teq ((by decide) : (0 : Int32) = (0 : Int32))).2) ?_
    refine XS.iconst X101.here hx rfl (hb hby own_d_prog_28_m3_7) ?_
    refine XS.goto X101.here hx rfl (pc0 := 8) (pc' := 12) rfl (hb hby own_d_prog_28_m3_8) (by decide) (by decide) ?_
    refine XS.istoreN X101.here hx rfl (hb hby own_d_prog_28_m3_12) rfl (l' := #[.val (.ref oa), .val (.int (1 : Int32)), .unset]) rfl ?_
    refine XS.iconst X101.here hx rfl (hb hby own_d_prog_28_m3_13) ?_
    refine XS.istoreN X101.here hx rfl (hb hby own_d_prog_28_m3_14) rfl (l' := #[.val (.ref oa), .val (.int (1 : Int32)), .val (.int (0 : Int32))]) rfl ?_
    refine XS.iloadN X101.here hx rfl (hb hby own_d_prog_28_m3_15) rfl ?_
    refine XS.ifNo X101.here hx rfl (hb hby own_d_prog_28_m3_16) rfl ((if0 _ _).trans (feq ((by decide) : ¬ ((1 : Int32) = (0 : Int32)))).1) ?_
    refine XS.iloadN X101.here hx rfl (hb hby own_d_prog_28_m3_19) rfl ?_
    refine XS.aloadN X101.here hx rfl (hb hby own_d_prog_28_m3_20) rfl rfl ?_
    exact k)
  obtain ⟨sE104, sd104, sN104, sk104, sv104, sV104, sC104, sK104, sc104, sb104, sl104⟩ := id hS
  obtain ⟨cq103, kq103, q103a, q103b, q103c⟩ := isOf hZ hh101 hS.1
  obtain ⟨_, _, ⟨T103, L103, k103, n103⟩, -, X103, ⟨Lc103, hQ103, l103, y103, z103⟩, st103⟩ := X101.virtualBack hx (y := (⟨"java/lang/String", "length", "()I"⟩ : MethodName)) (z := (⟨"java/lang/String", "length", "()I"⟩ : MethodName)) hown (mvT hZ (hw _ (List.mem_of_getElem? (i := 81) rfl))) (mvT hZ (hw _ (List.mem_of_getElem? (i := 82) rfl))) (notFace_of_selects (args := #[]) (mvT hZ (hw _ (List.mem_of_getElem? (i := 84) rfl)))) (mvT hZ (hw _ (List.mem_of_getElem? (i := 84) rfl))) (mvT hZ (hw _ (List.mem_of_getElem? (i := 83) rfl))) (by decide) (StrChars.Road.lenW (W := 1) hZ (own_hln hw) (kI := 4) (hw _ (List.mem_of_getElem? (i := 7) rfl)) sE104 sV104 sC104 sK104 sc104 sb104 (O2.ext X00.2) P5 sl104 (by decide) (by decide)) q103a q103c (g := (mkF m 21 #[.val (.ref oa), .val (.int (1 : Int32)), .val (.int (0 : Int32))] [(.ref oa), (.int (0 : Int32))])) rfl (by rw [hml]; rfl) (Steps.refl _) (argsL := []) (rest := [(.int (0 : Int32))]) (lenOf own_pd17 rfl) rfl (by show 2 * 0 + _ ≤ _; exact Nat.le_of_eq rfl) (hb hby own_d_prog_28_m3_21) (fun _ _ => ⟨rfl, hh101, (by decide : 0 + 0 ≤ _), (by decide : 0 + 0 ≤ _)⟩)
  dsimp only [Pt.U, Pt.locs, Pt.cells, Pt.slots] at X103 l103 y103 z103 st103 hQ103
  subst l103 y103 z103
  obtain ⟨hv103, hL103, hh103⟩ := hQ103
  subst hL103
  have N103 := Fr.app N101 (Fr.nil n0)
  subst hv103
  refine own_to (V := T103.setTop (mkF m 24 #[.val (.ref oa), .val (.int (1 : Int32)), .val (.int (0 : Int32))] [(.int (1 : Int32)), (.int (0 : Int32))])) ?_ (fun t k => st103.trans k)
  refine own_to (V := T103.setTop (mkF m 29 #[.val (.ref oa), .val (.int (1 : Int32)), .val (.int (0 : Int32))] [(.int (0 : Int32)), (.ref oa)])) ?_ fun t k => (by
    refine XS.icmpNo X103.here hx rfl (hb hby own_d_prog_28_m3_24) rfl (tlt ((by decide) : (0 : Int32) < (1 : Int32))).2.1 ?_
    refine XS.aloadN X103.here hx rfl (hb hby own_d_prog_28_m3_27) rfl rfl ?_
    refine XS.iloadN X103.here hx rfl (hb hby own_d_prog_28_m3_28) rfl ?_
    exact k)
  obtain ⟨cq105, kq105, q105a, q105b, q105c⟩ := isOf hZ hh103 hS.1
  obtain ⟨_, _, ⟨T105, L105, k105, n105⟩, -, X105, ⟨Lc105, hQ105, l105, y105, z105⟩, st105⟩ := X103.virtualBack hx (y := (⟨"java/lang/String", "charAt", "(I)C"⟩ : MethodName)) (z := (⟨"java/lang/String", "charAt", "(I)C"⟩ : MethodName)) hown (mvT hZ (hw _ (List.mem_of_getElem? (i := 91) rfl))) (mvT hZ (hw _ (List.mem_of_getElem? (i := 92) rfl))) (notFace_of_selects (args := #[]) (mvT hZ (hw _ (List.mem_of_getElem? (i := 94) rfl)))) (mvT hZ (hw _ (List.mem_of_getElem? (i := 94) rfl))) (mvT hZ (hw _ (List.mem_of_getElem? (i := 93) rfl))) (by decide) (backOf (W := 0) (own_rmchw l Z a0 hw hst [] oa ou ([w0] : List Int32) ([] : List Int32) w0 ([] : List Int32) h0 n0 X00 hS rfl hr0 (Nat.le_of_ble_eq_true rfl)) hZ (hw _ (List.mem_of_getElem? (i := 95) rfl)) (hw _ (List.mem_of_getElem? (i := 8) rfl)) (by decide) (by decide)) q105a q105c (g := (mkF m 29 #[.val (.ref oa), .val (.int (1 : Int32)), .val (.int (0 : Int32))] [(.int (0 : Int32)), (.ref oa)])) rfl (by rw [hml]; rfl) (Steps.refl _) (argsL := [(.int (0 : Int32))]) (rest := []) (lenOf own_pd18 rfl) rfl (by show 2 * 0 + _ ≤ _; exact Nat.le_of_eq rfl) (hb hby own_d_prog_28_m3_29) (fun _ _ => ⟨rfl, hh103, (by decide : 0 + 0 ≤ _), (by decide : 0 + 0 ≤ _)⟩)
  dsimp only [Pt.U, Pt.locs, Pt.cells, Pt.slots] at X105 l105 y105 z105 st105 hQ105
  subst l105 y105 z105
  obtain ⟨hv105, N105q, K105⟩ := hQ105
  subst hv105
  obtain ⟨h105, e105⟩ : ∃ z, T105.heap = z := ⟨_, rfl⟩
  rw [e105] at K105
  have Xo105 : Old Z n0 h105 := X00.keep K105 all0
  have KK105 : Keep h0 h105 [] := KK0.trans K105 all0
  have N105 := Fr.app N103 N105q
  refine own_to (V := T105.setTop (mkF m 32 #[.val (.ref oa), .val (.int (1 : Int32)), .val (.int (0 : Int32))] [(.int w0)])) ?_ (fun t k => st105.trans k)
  obtain ⟨_, _, ⟨T106, L106, k106, n106⟩, -, X106, ⟨Lc106, hQ106, l106, y106, z106⟩, st106⟩ := Jvm.LawKit.callS X105 hx (y := (⟨"java/lang/Character", "isISOControl", "(C)Z"⟩ : MethodName)) hown (mvT hZ (hw _ (List.mem_of_getElem? (i := 118) rfl))) (mvT hZ (hw _ (List.mem_of_getElem? (i := 119) rfl))) (mvT hZ (hw _ (List.mem_of_getElem? (i := 120) rfl))) (mvT hZ (hw _ (List.mem_of_getElem? (i := 121) rfl))) (by decide) (backOf (W := 0) (own_rmisoc l Z a0 hw hst [] w0 h105 n0 Xo105 hr0) hZ (hw _ (List.mem_of_getElem? (i := 121) rfl)) (hw _ (List.mem_of_getElem? (i := 120) rfl)) (by decide) (by decide)) (g := (mkF m 32 #[.val (.ref oa), .val (.int (1 : Int32)), .val (.int (0 : Int32))] [(.int w0)])) rfl (by rw [hml]; rfl) (argsL := [(.int w0)]) (rest := []) (lenOf own_pd13 rfl) rfl (by show 2 * 0 + _ ≤ _; exact Nat.le_of_eq rfl) (hb hby own_d_prog_28_m3_32) (fun _ _ => ⟨rfl, e105, (by decide : 0 + 0 ≤ _), (by decide : 0 + 0 ≤ _)⟩)
  dsimp only [Pt.U, Pt.locs, Pt.cells, Pt.slots] at X106 l106 y106 z106 st106 hQ106
  subst l106 y106 z106
  rcases hQ106 with ⟨hv106, N106q, K106, g106_0⟩ | ⟨hv106, N106q, K106, g106_0⟩
  · skip
    subst hv106
    obtain ⟨h106, e106⟩ : ∃ z, T106.heap = z := ⟨_, rfl⟩
    rw [e106] at K106
    have Xo106 : Old Z n0 h106 := Xo105.keep K106 all0
    have KK106 : Keep h0 h106 [] := KK105.trans K106 all0
    have N106 := Fr.app N105 N106q
    refine own_to (V := T106.setTop (mkF m 35 #[.val (.ref oa), .val (.int (1 : Int32)), .val (.int (0 : Int32))] [(.int (1 : Int32))])) ?_ st106
    refine own_to (V := T106.setTop (mkF m 51 #[.val (.ref oa), .val (.int (0 : Int32)), .val (.int (1 : Int32))] [(.int (0 : Int32))])) ?_ fun t k => (by
      refine XS.ifYes X106.here hx rfl (pc0 := 35) (pc' := 42) rfl (hb hby own_d_prog_28_m3_35) rfl ((if0 _ _).trans (feq ((by decide) : ¬ ((1 : Int32) = (0 : Int32)))).2) (by decide) (by decide) ?_
      refine XS.iconst X106.here hx rfl (hb hby own_d_prog_28_m3_42) ?_
      refine XS.istoreN X106.here hx rfl (hb hby own_d_prog_28_m3_43) rfl (l' := #[.val (.ref oa), .val (.int (0 : Int32)), .val (.int (0 : Int32))]) rfl ?_
      refine XS.iinc X106.here hx rfl (hb hby own_d_prog_28_m3_44) rfl (l' := #[.val (.ref oa), .val (.int (0 : Int32)), .val (.int (1 : Int32))]) rfl ?_
      refine XS.goto X106.here hx rfl (pc0 := 47) (pc' := 15) rfl (hb hby own_d_prog_28_m3_47) (by decide) (by decide) ?_
      refine XS.iloadN X106.here hx rfl (hb hby own_d_prog_28_m3_15) rfl ?_
      refine XS.ifYes X106.here hx rfl (pc0 := 16) (pc' := 50) rfl (hb hby own_d_prog_28_m3_16) rfl ((if0 _ _).trans (teq ((by decide) : (0 : Int32) = (0 : Int32))).1) (by decide) (by decide) ?_
      refine XS.iloadN X106.here hx rfl (hb hby own_d_prog_28_m3_50) rfl ?_
      exact k)
    exact own_retN X106 hx (t := .boolean) (w := (0 : Int32)) hret (by decide) rfl hlk (hb hby own_d_prog_28_m3_51) (by rw [e106]; exact (Or.inr (⟨rfl, N106, KK106, (g106_0)⟩))) (by decide) (by decide)
  · skip
    subst hv106
    obtain ⟨h106, e106⟩ : ∃ z, T106.heap = z := ⟨_, rfl⟩
    rw [e106] at K106
    have Xo106 : Old Z n0 h106 := Xo105.keep K106 all0
    have KK106 : Keep h0 h106 [] := KK105.trans K106 all0
    have N106 := Fr.app N105 N106q
    refine own_to (V := T106.setTop (mkF m 35 #[.val (.ref oa), .val (.int (1 : Int32)), .val (.int (0 : Int32))] [(.int (0 : Int32))])) ?_ st106
    refine own_to (V := T106.setTop (mkF m 21 #[.val (.ref oa), .val (.int (1 : Int32)), .val (.int (1 : Int32))] [(.ref oa), (.int (1 : Int32))])) ?_ fun t k => (by
      refine XS.ifNo X106.here hx rfl (hb hby own_d_prog_28_m3_35) rfl ((if0 _ _).trans (teq ((by decide) : (0 : Int32) = (0 : Int32))).2) ?_
      refine XS.iconst X106.here hx rfl (hb hby own_d_prog_28_m3_38) ?_
      refine XS.goto X106.here hx rfl (pc0 := 39) (pc' := 43) rfl (hb hby own_d_prog_28_m3_39) (by decide) (by decide) ?_
      refine XS.istoreN X106.here hx rfl (hb hby own_d_prog_28_m3_43) rfl (l' := #[.val (.ref oa), .val (.int (1 : Int32)), .val (.int (0 : Int32))]) rfl ?_
      refine XS.iinc X106.here hx rfl (hb hby own_d_prog_28_m3_44) rfl (l' := #[.val (.ref oa), .val (.int (1 : Int32)), .val (.int (1 : Int32))]) rfl ?_
      refine XS.goto X106.here hx rfl (pc0 := 47) (pc' := 15) rfl (hb hby own_d_prog_28_m3_47) (by decide) (by decide) ?_
      refine XS.iloadN X106.here hx rfl (hb hby own_d_prog_28_m3_15) rfl ?_
      refine XS.ifNo X106.here hx rfl (hb hby own_d_prog_28_m3_16) rfl ((if0 _ _).trans (feq ((by decide) : ¬ ((1 : Int32) = (0 : Int32)))).1) ?_
      refine XS.iloadN X106.here hx rfl (hb hby own_d_prog_28_m3_19) rfl ?_
      refine XS.aloadN X106.here hx rfl (hb hby own_d_prog_28_m3_20) rfl rfl ?_
      exact k)
    have F109 : own_Str Z h106 oa ou ([w0] : List Int32) := ((hS.keep K105 List.not_mem_nil List.not_mem_nil).keep K106 List.not_mem_nil List.not_mem_nil)
    obtain ⟨sE108, sd108, sN108, sk108, sv108, sV108, sC108, sK108, sc108, sb108, sl108⟩ := id F109
    obtain ⟨cq107, kq107, q107a, q107b, q107c⟩ := isOf hZ e106 F109.1
    obtain ⟨_, _, ⟨T107, L107, k107, n107⟩, -, X107, ⟨Lc107, hQ107, l107, y107, z107⟩, st107⟩ := X106.virtualBack hx (y := (⟨"java/lang/String", "length", "()I"⟩ : MethodName)) (z := (⟨"java/lang/String", "length", "()I"⟩ : MethodName)) hown (mvT hZ (hw _ (List.mem_of_getElem? (i := 81) rfl))) (mvT hZ (hw _ (List.mem_of_getElem? (i := 82) rfl))) (notFace_of_selects (args := #[]) (mvT hZ (hw _ (List.mem_of_getElem? (i := 84) rfl)))) (mvT hZ (hw _ (List.mem_of_getElem? (i := 84) rfl))) (mvT hZ (hw _ (List.mem_of_getElem? (i := 83) rfl))) (by decide) (StrChars.Road.lenW (W := 1) hZ (own_hln hw) (kI := 4) (hw _ (List.mem_of_getElem? (i := 7) rfl)) sE108 sV108 sC108 sK108 sc108 sb108 (O2.ext Xo106.2) P5 sl108 (by decide) (by decide)) q107a q107c (g := (mkF m 21 #[.val (.ref oa), .val (.int (1 : Int32)), .val (.int (1 : Int32))] [(.ref oa), (.int (1 : Int32))])) rfl (by rw [hml]; rfl) (Steps.refl _) (argsL := []) (rest := [(.int (1 : Int32))]) (lenOf own_pd17 rfl) rfl (by show 2 * 0 + _ ≤ _; exact Nat.le_of_eq rfl) (hb hby own_d_prog_28_m3_21) (fun _ _ => ⟨rfl, e106, (by decide : 0 + 0 ≤ _), (by decide : 0 + 0 ≤ _)⟩)
    dsimp only [Pt.U, Pt.locs, Pt.cells, Pt.slots] at X107 l107 y107 z107 st107 hQ107
    subst l107 y107 z107
    obtain ⟨hv107, hL107, hh107⟩ := hQ107
    subst hL107
    have N107 := Fr.app N106 (Fr.nil n0)
    subst hv107
    refine own_to (V := T107.setTop (mkF m 24 #[.val (.ref oa), .val (.int (1 : Int32)), .val (.int (1 : Int32))] [(.int (1 : Int32)), (.int (1 : Int32))])) ?_ (fun t k => st107.trans k)
    refine own_to (V := T107.setTop (mkF m 51 #[.val (.ref oa), .val (.int (1 : Int32)), .val (.int (1 : Int32))] [(.int (1 : Int32))])) ?_ fun t k => (by
      refine XS.icmpYes X107.here hx rfl (pc0 := 24) (pc' := 50) rfl (hb hby own_d_prog_28_m3_24) rfl (flt ((by decide) : ¬ ((1 : Int32) < (1 : Int32)))).2.1 (by decide) (by decide) ?_
      refine XS.iloadN X107.here hx rfl (hb hby own_d_prog_28_m3_50) rfl ?_
      exact k)
    exact own_retN X107 hx (t := .boolean) (w := (1 : Int32)) hret (by decide) rfl hlk (hb hby own_d_prog_28_m3_51) (by rw [hh107]; exact (Or.inl ⟨rfl, N107, KK106, g106_0⟩)) (by decide) (by decide)
def own_Qisid2 (Z : State) (oa : Addr) (ou : Addr) (w0 : Int32) (w1 : Int32) (h0 : Heap) (n0 : Nat) (v : Option Value) (h : Heap) (L : List Loc) : Prop := (v = some (.int (1 : Int32)) ∧ Fr n0 L ∧ Keep h0 h [] ∧ (¬ own_ctl w0) ∧ (¬ own_ctl w1)) ∨ (v = some (.int (0 : Int32)) ∧ Fr n0 L ∧ Keep h0 h [] ∧ (own_ctl w0 ∨ own_ctl w1))
theorem own_ef_isid2 (m : MethodId) (oa : Addr)  : entryFrame m #[(.ref oa)] 3 = mkF m 0 #[.val (.ref oa), .unset, .unset] [] := by first | (simp [entryFrame, mkF, argsToLocals, Value.category]; done) | rfl
set_option maxRecDepth 65536 in
set_option maxHeartbeats 40000000 in
theorem own_rmisid2 (l : Launch) (Z : State) (a0 : Array Value) (hw : ∀ d ∈ tables_1, d.before a0 Z = true) (hst : own_St Z) (ws : List Jvm.Cond) (oa : Addr) (ou : Addr) (w0 : Int32) (w1 : Int32) (h0 : Heap) (n0 : Nat) (X00 : Old Z n0 h0) (hS : own_Str Z h0 oa ou ([w0, w1] : List Int32)) (hr0 : ¬ w0 < 0 ∧ ¬ (65535 : Int32) < w0) (hr1 : ¬ w1 < 0 ∧ ¬ (65535 : Int32) < w1) :
    MetFree l (⟨"com/example/turnwise/turnwise/input/Ids", "isId", "(Ljava/lang/String;)Z"⟩ : MethodName) (head1 (Jvm.Cond.code (⟨"com/example/turnwise/turnwise/input/Ids", "isId", "(Ljava/lang/String;)Z"⟩ : MethodName) prog_28_method_3_code 3 (Option.some Jvm.ClassFile.FieldType.boolean) :: ws) ({ frames := 5, cells := 0, slots := 0, locals := 66 } : Room)) (fun a U => a = #[(.ref oa)] ∧ Z.Warmed39 U.vm ∧ U.heap = h0) (fun _ _ _ _ _ => True) (fun _ U o U' => ∃ v L, o = .returned v ∧ own_Qisid2 Z oa ou w0 w1 h0 n0 v U'.heap L ∧ FrameEnd U o U' L ({ frames := 5, cells := 0, slots := 0, locals := 66 } : Room).cells ({ frames := 5, cells := 0, slots := 0, locals := 66 } : Room).slots) := by
  refine MetFree.of_bodySF (plainFor_of_name own_pn6) hisR ?_
  intro p e s m args below meth c s₁ Bd hml0 hP hK
  obtain ⟨rfl, hZ, hh⟩ := hP
  have hx := Bd.exec
  have hby := Bd.bytes
  have hret := Bd.returns
  have hlk : meth.locks = false := BodyLoose.notSynchronized Bd
  have hml : c.maxLocals = 3 := hml0
  have hown : s.vm.findClass "com/example/turnwise/turnwise/input/Ids" = some m.cls := findClass_of_methodNamed Bd.named
  have hnm := (name_of_methodNamed Bd.named Bd.method).1
  have X0 : Stand p l e ({ frames := 5, cells := 0, slots := 0, locals := 66 } : Room) s m #[(.ref oa)] below meth c s₁ [] 0 0 := Stand.of_body Bd
  have e0 : s₁.heap = h0 := by rw [← hh, Bd.state]; rfl
  have N0 := Fr.nil n0
  have KK0 : Keep h0 h0 [] := Keep.refl h0 _
  refine own_start (own_Qisid2 Z oa ou w0 w1 h0 n0) ?_
  refine own_to (V := s₁.setTop (mkF m 0 #[.val (.ref oa), .unset, .unset] [])) ?_ (fun t k => castTop (own_ef_isid2 m oa ) k)
  obtain ⟨⟨G1, O2, P5⟩, ⟨G3, O4, rG3⟩, ⟨uO1, uO2, uO3⟩, -⟩ := id hst
  refine own_to (V := s₁.setTop (mkF m 1 #[.val (.ref oa), .unset, .unset] [(.ref oa)])) ?_ fun t k => (by
    refine XS.aloadN X0.here hx rfl (hb hby own_d_prog_28_m3_0) rfl rfl ?_
    exact k)
  obtain ⟨sE102, sd102, sN102, sk102, sv102, sV102, sC102, sK102, sc102, sb102, sl102⟩ := id hS
  obtain ⟨cq101, kq101, q101a, q101b, q101c⟩ := isOf hZ e0 hS.1
  obtain ⟨_, _, ⟨T101, L101, k101, n101⟩, -, X101, ⟨Lc101, hQ101, l101, y101, z101⟩, st101⟩ := X0.virtualBack hx (y := (⟨"java/lang/String", "isEmpty", "()Z"⟩ : MethodName)) (z := (⟨"java/lang/String", "isEmpty", "()Z"⟩ : MethodName)) hown (mvT hZ (hw _ (List.mem_of_getElem? (i := 76) rfl))) (mvT hZ (hw _ (List.mem_of_getElem? (i := 77) rfl))) (notFace_of_selects (args := #[]) (mvT hZ (hw _ (List.mem_of_getElem? (i := 79) rfl)))) (mvT hZ (hw _ (List.mem_of_getElem? (i := 79) rfl))) (mvT hZ (hw _ (List.mem_of_getElem? (i := 78) rfl))) (by decide) (StrChars.Road.empW (W := 0) hZ (own_hem hw) (kI := 4) (hw _ (List.mem_of_getElem? (i := 7) rfl)) sE102 sV102 sC102 sK102 sc102 sb102 sl102 (by decide) (by decide)) q101a q101c (g := (mkF m 1 #[.val (.ref oa), .unset, .unset] [(.ref oa)])) rfl (by rw [hml]; rfl) (Steps.refl _) (argsL := []) (rest := []) (lenOf own_pd12 rfl) rfl (by show 2 * 0 + _ ≤ _; exact Nat.le_of_eq rfl) (hb hby own_d_prog_28_m3_1) (fun _ _ => ⟨rfl, e0, (by decide : 0 + 0 ≤ _), (by decide : 0 + 0 ≤ _)⟩)
  dsimp only [Pt.U, Pt.locs, Pt.cells, Pt.slots] at X101 l101 y101 z101 st101 hQ101
  subst l101 y101 z101
  obtain ⟨hv101, hL101, hh101⟩ := hQ101
  subst hL101
  have N101 := Fr.app N0 (Fr.nil n0)
  subst hv101
  refine own_to (V := T101.setTop (mkF m 4 #[.val (.ref oa), .unset, .unset] [(.int (0 : Int32))])) ?_ (fun t k => st101.trans k)
  refine own_to (V := T101.setTop (mkF m 21 #[.val (.ref oa), .val (.int (1 : Int32)), .val (.int (0 : Int32))] [(.ref oa), (.int (0 : Int32))])) ?_ fun t k => (by
    refine XS.ifNo X101.here hx rfl (hb hby own_d_prog_28_m3_4) rfl ((if0 _ _).trans (teq ((by decide) : (0 : Int32) = (0 : Int32))).2) ?_
    refine XS.iconst X101.here hx rfl (hb hby own_d_prog_28_m3_7) ?_
    refine XS.goto X101.here hx rfl (pc0 := 8) (pc' := 12) rfl (hb hby own_d_prog_28_m3_8) (by decide) (by decide) ?_
    refine XS.istoreN X101.here hx rfl (hb hby own_d_prog_28_m3_12) rfl (l' := #[.val (.ref oa), .val (.int (1 : Int32)), .unset]) rfl ?_
    refine XS.iconst X101.here hx rfl (hb hby own_d_prog_28_m3_13) ?_
    refine XS.istoreN X101.here hx rfl (hb hby own_d_prog_28_m3_14) rfl (l' := #[.val (.ref oa), .val (.int (1 : Int32)), .val (.int (0 : Int32))]) rfl ?_
    refine XS.iloadN X101.here hx rfl (hb hby own_d_prog_28_m3_15) rfl ?_
    refine XS.ifNo X101.here hx rfl (hb hby own_d_prog_28_m3_16) rfl ((if0 _ _).trans (feq ((by decide) : ¬ ((1 : Int32) = (0 : Int32)))).1) ?_
    refine XS.iloadN X101.here hx rfl (hb hby own_d_prog_28_m3_19) rfl ?_
    refine XS.aloadN X101.here hx rfl (hb hby own_d_prog_28_m3_20) rfl rfl ?_
    exact k)
  obtain ⟨sE104, sd104, sN104, sk104, sv104, sV104, sC104, sK104, sc104, sb104, sl104⟩ := id hS
  obtain ⟨cq103, kq103, q103a, q103b, q103c⟩ := isOf hZ hh101 hS.1
  obtain ⟨_, _, ⟨T103, L103, k103, n103⟩, -, X103, ⟨Lc103, hQ103, l103, y103, z103⟩, st103⟩ := X101.virtualBack hx (y := (⟨"java/lang/String", "length", "()I"⟩ : MethodName)) (z := (⟨"java/lang/String", "length", "()I"⟩ : MethodName)) hown (mvT hZ (hw _ (List.mem_of_getElem? (i := 81) rfl))) (mvT hZ (hw _ (List.mem_of_getElem? (i := 82) rfl))) (notFace_of_selects (args := #[]) (mvT hZ (hw _ (List.mem_of_getElem? (i := 84) rfl)))) (mvT hZ (hw _ (List.mem_of_getElem? (i := 84) rfl))) (mvT hZ (hw _ (List.mem_of_getElem? (i := 83) rfl))) (by decide) (StrChars.Road.lenW (W := 1) hZ (own_hln hw) (kI := 4) (hw _ (List.mem_of_getElem? (i := 7) rfl)) sE104 sV104 sC104 sK104 sc104 sb104 (O2.ext X00.2) P5 sl104 (by decide) (by decide)) q103a q103c (g := (mkF m 21 #[.val (.ref oa), .val (.int (1 : Int32)), .val (.int (0 : Int32))] [(.ref oa), (.int (0 : Int32))])) rfl (by rw [hml]; rfl) (Steps.refl _) (argsL := []) (rest := [(.int (0 : Int32))]) (lenOf own_pd17 rfl) rfl (by show 2 * 0 + _ ≤ _; exact Nat.le_of_eq rfl) (hb hby own_d_prog_28_m3_21) (fun _ _ => ⟨rfl, hh101, (by decide : 0 + 0 ≤ _), (by decide : 0 + 0 ≤ _)⟩)
  dsimp only [Pt.U, Pt.locs, Pt.cells, Pt.slots] at X103 l103 y103 z103 st103 hQ103
  subst l103 y103 z103
  obtain ⟨hv103, hL103, hh103⟩ := hQ103
  subst hL103
  have N103 := Fr.app N101 (Fr.nil n0)
  subst hv103
  refine own_to (V := T103.setTop (mkF m 24 #[.val (.ref oa), .val (.int (1 : Int32)), .val (.int (0 : Int32))] [(.int (2 : Int32)), (.int (0 : Int32))])) ?_ (fun t k => st103.trans k)
  refine own_to (V := T103.setTop (mkF m 29 #[.val (.ref oa), .val (.int (1 : Int32)), .val (.int (0 : Int32))] [(.int (0 : Int32)), (.ref oa)])) ?_ fun t k => (by
    refine XS.icmpNo X103.here hx rfl (hb hby own_d_prog_28_m3_24) rfl (tlt ((by decide) : (0 : Int32) < (2 : Int32))).2.1 ?_
    refine XS.aloadN X103.here hx rfl (hb hby own_d_prog_28_m3_27) rfl rfl ?_
    refine XS.iloadN X103.here hx rfl (hb hby own_d_prog_28_m3_28) rfl ?_
    exact k)
  obtain ⟨cq105, kq105, q105a, q105b, q105c⟩ := isOf hZ hh103 hS.1
  obtain ⟨_, _, ⟨T105, L105, k105, n105⟩, -, X105, ⟨Lc105, hQ105, l105, y105, z105⟩, st105⟩ := X103.virtualBack hx (y := (⟨"java/lang/String", "charAt", "(I)C"⟩ : MethodName)) (z := (⟨"java/lang/String", "charAt", "(I)C"⟩ : MethodName)) hown (mvT hZ (hw _ (List.mem_of_getElem? (i := 91) rfl))) (mvT hZ (hw _ (List.mem_of_getElem? (i := 92) rfl))) (notFace_of_selects (args := #[]) (mvT hZ (hw _ (List.mem_of_getElem? (i := 94) rfl)))) (mvT hZ (hw _ (List.mem_of_getElem? (i := 94) rfl))) (mvT hZ (hw _ (List.mem_of_getElem? (i := 93) rfl))) (by decide) (backOf (W := 0) (own_rmchw l Z a0 hw hst [] oa ou ([w0, w1] : List Int32) ([] : List Int32) w0 ([w1] : List Int32) h0 n0 X00 hS rfl hr0 (Nat.le_of_ble_eq_true rfl)) hZ (hw _ (List.mem_of_getElem? (i := 95) rfl)) (hw _ (List.mem_of_getElem? (i := 8) rfl)) (by decide) (by decide)) q105a q105c (g := (mkF m 29 #[.val (.ref oa), .val (.int (1 : Int32)), .val (.int (0 : Int32))] [(.int (0 : Int32)), (.ref oa)])) rfl (by rw [hml]; rfl) (Steps.refl _) (argsL := [(.int (0 : Int32))]) (rest := []) (lenOf own_pd18 rfl) rfl (by show 2 * 0 + _ ≤ _; exact Nat.le_of_eq rfl) (hb hby own_d_prog_28_m3_29) (fun _ _ => ⟨rfl, hh103, (by decide : 0 + 0 ≤ _), (by decide : 0 + 0 ≤ _)⟩)
  dsimp only [Pt.U, Pt.locs, Pt.cells, Pt.slots] at X105 l105 y105 z105 st105 hQ105
  subst l105 y105 z105
  obtain ⟨hv105, N105q, K105⟩ := hQ105
  subst hv105
  obtain ⟨h105, e105⟩ : ∃ z, T105.heap = z := ⟨_, rfl⟩
  rw [e105] at K105
  have Xo105 : Old Z n0 h105 := X00.keep K105 all0
  have KK105 : Keep h0 h105 [] := KK0.trans K105 all0
  have N105 := Fr.app N103 N105q
  refine own_to (V := T105.setTop (mkF m 32 #[.val (.ref oa), .val (.int (1 : Int32)), .val (.int (0 : Int32))] [(.int w0)])) ?_ (fun t k => st105.trans k)
  obtain ⟨_, _, ⟨T106, L106, k106, n106⟩, -, X106, ⟨Lc106, hQ106, l106, y106, z106⟩, st106⟩ := Jvm.LawKit.callS X105 hx (y := (⟨"java/lang/Character", "isISOControl", "(C)Z"⟩ : MethodName)) hown (mvT hZ (hw _ (List.mem_of_getElem? (i := 118) rfl))) (mvT hZ (hw _ (List.mem_of_getElem? (i := 119) rfl))) (mvT hZ (hw _ (List.mem_of_getElem? (i := 120) rfl))) (mvT hZ (hw _ (List.mem_of_getElem? (i := 121) rfl))) (by decide) (backOf (W := 0) (own_rmisoc l Z a0 hw hst [] w0 h105 n0 Xo105 hr0) hZ (hw _ (List.mem_of_getElem? (i := 121) rfl)) (hw _ (List.mem_of_getElem? (i := 120) rfl)) (by decide) (by decide)) (g := (mkF m 32 #[.val (.ref oa), .val (.int (1 : Int32)), .val (.int (0 : Int32))] [(.int w0)])) rfl (by rw [hml]; rfl) (argsL := [(.int w0)]) (rest := []) (lenOf own_pd13 rfl) rfl (by show 2 * 0 + _ ≤ _; exact Nat.le_of_eq rfl) (hb hby own_d_prog_28_m3_32) (fun _ _ => ⟨rfl, e105, (by decide : 0 + 0 ≤ _), (by decide : 0 + 0 ≤ _)⟩)
  dsimp only [Pt.U, Pt.locs, Pt.cells, Pt.slots] at X106 l106 y106 z106 st106 hQ106
  subst l106 y106 z106
  rcases hQ106 with ⟨hv106, N106q, K106, g106_0⟩ | ⟨hv106, N106q, K106, g106_0⟩
  · skip
    subst hv106
    obtain ⟨h106, e106⟩ : ∃ z, T106.heap = z := ⟨_, rfl⟩
    rw [e106] at K106
    have Xo106 : Old Z n0 h106 := Xo105.keep K106 all0
    have KK106 : Keep h0 h106 [] := KK105.trans K106 all0
    have N106 := Fr.app N105 N106q
    refine own_to (V := T106.setTop (mkF m 35 #[.val (.ref oa), .val (.int (1 : Int32)), .val (.int (0 : Int32))] [(.int (1 : Int32))])) ?_ st106
    refine own_to (V := T106.setTop (mkF m 51 #[.val (.ref oa), .val (.int (0 : Int32)), .val (.int (1 : Int32))] [(.int (0 : Int32))])) ?_ fun t k => (by
      refine XS.ifYes X106.here hx rfl (pc0 := 35) (pc' := 42) rfl (hb hby own_d_prog_28_m3_35) rfl ((if0 _ _).trans (feq ((by decide) : ¬ ((1 : Int32) = (0 : Int32)))).2) (by decide) (by decide) ?_
      refine XS.iconst X106.here hx rfl (hb hby own_d_prog_28_m3_42) ?_
      refine XS.istoreN X106.here hx rfl (hb hby own_d_prog_28_m3_43) rfl (l' := #[.val (.ref oa), .val (.int (0 : Int32)), .val (.int (0 : Int32))]) rfl ?_
      refine XS.iinc X106.here hx rfl (hb hby own_d_prog_28_m3_44) rfl (l' := #[.val (.ref oa), .val (.int (0 : Int32)), .val (.int (1 : Int32))]) rfl ?_
      refine XS.goto X106.here hx rfl (pc0 := 47) (pc' := 15) rfl (hb hby own_d_prog_28_m3_47) (by decide) (by decide) ?_
      refine XS.iloadN X106.here hx rfl (hb hby own_d_prog_28_m3_15) rfl ?_
      refine XS.ifYes X106.here hx rfl (pc0 := 16) (pc' := 50) rfl (hb hby own_d_prog_28_m3_16) rfl ((if0 _ _).trans (teq ((by decide) : (0 : Int32) = (0 : Int32))).1) (by decide) (by decide) ?_
      refine XS.iloadN X106.here hx rfl (hb hby own_d_prog_28_m3_50) rfl ?_
      exact k)
    exact own_retN X106 hx (t := .boolean) (w := (0 : Int32)) hret (by decide) rfl hlk (hb hby own_d_prog_28_m3_51) (by rw [e106]; exact (Or.inr (⟨rfl, N106, KK106, (Or.inl g106_0)⟩))) (by decide) (by decide)
  · skip
    subst hv106
    obtain ⟨h106, e106⟩ : ∃ z, T106.heap = z := ⟨_, rfl⟩
    rw [e106] at K106
    have Xo106 : Old Z n0 h106 := Xo105.keep K106 all0
    have KK106 : Keep h0 h106 [] := KK105.trans K106 all0
    have N106 := Fr.app N105 N106q
    refine own_to (V := T106.setTop (mkF m 35 #[.val (.ref oa), .val (.int (1 : Int32)), .val (.int (0 : Int32))] [(.int (0 : Int32))])) ?_ st106
    refine own_to (V := T106.setTop (mkF m 21 #[.val (.ref oa), .val (.int (1 : Int32)), .val (.int (1 : Int32))] [(.ref oa), (.int (1 : Int32))])) ?_ fun t k => (by
      refine XS.ifNo X106.here hx rfl (hb hby own_d_prog_28_m3_35) rfl ((if0 _ _).trans (teq ((by decide) : (0 : Int32) = (0 : Int32))).2) ?_
      refine XS.iconst X106.here hx rfl (hb hby own_d_prog_28_m3_38) ?_
      refine XS.goto X106.here hx rfl (pc0 := 39) (pc' := 43) rfl (hb hby own_d_prog_28_m3_39) (by decide) (by decide) ?_
      refine XS.istoreN X106.here hx rfl (hb hby own_d_prog_28_m3_43) rfl (l' := #[.val (.ref oa), .val (.int (1 : Int32)), .val (.int (0 : Int32))]) rfl ?_
      refine XS.iinc X106.here hx rfl (hb hby own_d_prog_28_m3_44) rfl (l' := #[.val (.ref oa), .val (.int (1 : Int32)), .val (.int (1 : Int32))]) rfl ?_
      refine XS.goto X106.here hx rfl (pc0 := 47) (pc' := 15) rfl (hb hby own_d_prog_28_m3_47) (by decide) (by decide) ?_
      refine XS.iloadN X106.here hx rfl (hb hby own_d_prog_28_m3_15) rfl ?_
      refine XS.ifNo X106.here hx rfl (hb hby own_d_prog_28_m3_16) rfl ((if0 _ _).trans (feq ((by decide) : ¬ ((1 : Int32) = (0 : Int32)))).1) ?_
      refine XS.iloadN X106.here hx rfl (hb hby own_d_prog_28_m3_19) rfl ?_
      refine XS.aloadN X106.here hx rfl (hb hby own_d_prog_28_m3_20) rfl rfl ?_
      exact k)
    have F109 : own_Str Z h106 oa ou ([w0, w1] : List Int32) := ((hS.keep K105 List.not_mem_nil List.not_mem_nil).keep K106 List.not_mem_nil List.not_mem_nil)
    obtain ⟨sE108, sd108, sN108, sk108, sv108, sV108, sC108, sK108, sc108, sb108, sl108⟩ := id F109
    obtain ⟨cq107, kq107, q107a, q107b, q107c⟩ := isOf hZ e106 F109.1
    obtain ⟨_, _, ⟨T107, L107, k107, n107⟩, -, X107, ⟨Lc107, hQ107, l107, y107, z107⟩, st107⟩ := X106.virtualBack hx (y := (⟨"java/lang/String", "length", "()I"⟩ : MethodName)) (z := (⟨"java/lang/String", "length", "()I"⟩ : MethodName)) hown (mvT hZ (hw _ (List.mem_of_getElem? (i := 81) rfl))) (mvT hZ (hw _ (List.mem_of_getElem? (i := 82) rfl))) (notFace_of_selects (args := #[]) (mvT hZ (hw _ (List.mem_of_getElem? (i := 84) rfl)))) (mvT hZ (hw _ (List.mem_of_getElem? (i := 84) rfl))) (mvT hZ (hw _ (List.mem_of_getElem? (i := 83) rfl))) (by decide) (StrChars.Road.lenW (W := 1) hZ (own_hln hw) (kI := 4) (hw _ (List.mem_of_getElem? (i := 7) rfl)) sE108 sV108 sC108 sK108 sc108 sb108 (O2.ext Xo106.2) P5 sl108 (by decide) (by decide)) q107a q107c (g := (mkF m 21 #[.val (.ref oa), .val (.int (1 : Int32)), .val (.int (1 : Int32))] [(.ref oa), (.int (1 : Int32))])) rfl (by rw [hml]; rfl) (Steps.refl _) (argsL := []) (rest := [(.int (1 : Int32))]) (lenOf own_pd17 rfl) rfl (by show 2 * 0 + _ ≤ _; exact Nat.le_of_eq rfl) (hb hby own_d_prog_28_m3_21) (fun _ _ => ⟨rfl, e106, (by decide : 0 + 0 ≤ _), (by decide : 0 + 0 ≤ _)⟩)
    dsimp only [Pt.U, Pt.locs, Pt.cells, Pt.slots] at X107 l107 y107 z107 st107 hQ107
    subst l107 y107 z107
    obtain ⟨hv107, hL107, hh107⟩ := hQ107
    subst hL107
    have N107 := Fr.app N106 (Fr.nil n0)
    subst hv107
    refine own_to (V := T107.setTop (mkF m 24 #[.val (.ref oa), .val (.int (1 : Int32)), .val (.int (1 : Int32))] [(.int (2 : Int32)), (.int (1 : Int32))])) ?_ (fun t k => st107.trans k)
    refine own_to (V := T107.setTop (mkF m 29 #[.val (.ref oa), .val (.int (1 : Int32)), .val (.int (1 : Int32))] [(.int (1 : Int32)), (.ref oa)])) ?_ fun t k => (by
      refine XS.icmpNo X107.here hx rfl (hb hby own_d_prog_28_m3_24) rfl (tlt ((by decide) : (1 : Int32) < (2 : Int32))).2.1 ?_
      refine XS.aloadN X107.here hx rfl (hb hby own_d_prog_28_m3_27) rfl rfl ?_
      refine XS.iloadN X107.here hx rfl (hb hby own_d_prog_28_m3_28) rfl ?_
      exact k)
    obtain ⟨cq110, kq110, q110a, q110b, q110c⟩ := isOf hZ hh107 F109.1
    obtain ⟨_, _, ⟨T110, L110, k110, n110⟩, -, X110, ⟨Lc110, hQ110, l110, y110, z110⟩, st110⟩ := X107.virtualBack hx (y := (⟨"java/lang/String", "charAt", "(I)C"⟩ : MethodName)) (z := (⟨"java/lang/String", "charAt", "(I)C"⟩ : MethodName)) hown (mvT hZ (hw _ (List.mem_of_getElem? (i := 91) rfl))) (mvT hZ (hw _ (List.mem_of_getElem? (i := 92) rfl))) (notFace_of_selects (args := #[]) (mvT hZ (hw _ (List.mem_of_getElem? (i := 94) rfl)))) (mvT hZ (hw _ (List.mem_of_getElem? (i := 94) rfl))) (mvT hZ (hw _ (List.mem_of_getElem? (i := 93) rfl))) (by decide) (backOf (W := 0) (own_rmchw l Z a0 hw hst [] oa ou ([w0, w1] : List Int32) ([w0] : List Int32) w1 ([] : List Int32) h106 n0 Xo106 F109 rfl hr1 (Nat.le_of_ble_eq_true rfl)) hZ (hw _ (List.mem_of_getElem? (i := 95) rfl)) (hw _ (List.mem_of_getElem? (i := 8) rfl)) (by decide) (by decide)) q110a q110c (g := (mkF m 29 #[.val (.ref oa), .val (.int (1 : Int32)), .val (.int (1 : Int32))] [(.int (1 : Int32)), (.ref oa)])) rfl (by rw [hml]; rfl) (Steps.refl _) (argsL := [(.int (1 : Int32))]) (rest := []) (lenOf own_pd18 rfl) rfl (by show 2 * 0 + _ ≤ _; exact Nat.le_of_eq rfl) (hb hby own_d_prog_28_m3_29) (fun _ _ => ⟨rfl, hh107, (by decide : 0 + 0 ≤ _), (by decide : 0 + 0 ≤ _)⟩)
    dsimp only [Pt.U, Pt.locs, Pt.cells, Pt.slots] at X110 l110 y110 z110 st110 hQ110
    subst l110 y110 z110
    obtain ⟨hv110, N110q, K110⟩ := hQ110
    subst hv110
    obtain ⟨h110, e110⟩ : ∃ z, T110.heap = z := ⟨_, rfl⟩
    rw [e110] at K110
    have Xo110 : Old Z n0 h110 := Xo106.keep K110 all0
    have KK110 : Keep h0 h110 [] := KK106.trans K110 all0
    have N110 := Fr.app N107 N110q
    refine own_to (V := T110.setTop (mkF m 32 #[.val (.ref oa), .val (.int (1 : Int32)), .val (.int (1 : Int32))] [(.int w1)])) ?_ (fun t k => st110.trans k)
    obtain ⟨_, _, ⟨T111, L111, k111, n111⟩, -, X111, ⟨Lc111, hQ111, l111, y111, z111⟩, st111⟩ := Jvm.LawKit.callS X110 hx (y := (⟨"java/lang/Character", "isISOControl", "(C)Z"⟩ : MethodName)) hown (mvT hZ (hw _ (List.mem_of_getElem? (i := 118) rfl))) (mvT hZ (hw _ (List.mem_of_getElem? (i := 119) rfl))) (mvT hZ (hw _ (List.mem_of_getElem? (i := 120) rfl))) (mvT hZ (hw _ (List.mem_of_getElem? (i := 121) rfl))) (by decide) (backOf (W := 0) (own_rmisoc l Z a0 hw hst [] w1 h110 n0 Xo110 hr1) hZ (hw _ (List.mem_of_getElem? (i := 121) rfl)) (hw _ (List.mem_of_getElem? (i := 120) rfl)) (by decide) (by decide)) (g := (mkF m 32 #[.val (.ref oa), .val (.int (1 : Int32)), .val (.int (1 : Int32))] [(.int w1)])) rfl (by rw [hml]; rfl) (argsL := [(.int w1)]) (rest := []) (lenOf own_pd13 rfl) rfl (by show 2 * 0 + _ ≤ _; exact Nat.le_of_eq rfl) (hb hby own_d_prog_28_m3_32) (fun _ _ => ⟨rfl, e110, (by decide : 0 + 0 ≤ _), (by decide : 0 + 0 ≤ _)⟩)
    dsimp only [Pt.U, Pt.locs, Pt.cells, Pt.slots] at X111 l111 y111 z111 st111 hQ111
    subst l111 y111 z111
    rcases hQ111 with ⟨hv111, N111q, K111, g111_0⟩ | ⟨hv111, N111q, K111, g111_0⟩
    · skip
      subst hv111
      obtain ⟨h111, e111⟩ : ∃ z, T111.heap = z := ⟨_, rfl⟩
      rw [e111] at K111
      have Xo111 : Old Z n0 h111 := Xo110.keep K111 all0
      have KK111 : Keep h0 h111 [] := KK110.trans K111 all0
      have N111 := Fr.app N110 N111q
      refine own_to (V := T111.setTop (mkF m 35 #[.val (.ref oa), .val (.int (1 : Int32)), .val (.int (1 : Int32))] [(.int (1 : Int32))])) ?_ st111
      refine own_to (V := T111.setTop (mkF m 51 #[.val (.ref oa), .val (.int (0 : Int32)), .val (.int (2 : Int32))] [(.int (0 : Int32))])) ?_ fun t k => (by
        refine XS.ifYes X111.here hx rfl (pc0 := 35) (pc' := 42) rfl (hb hby own_d_prog_28_m3_35) rfl ((if0 _ _).trans (feq ((by decide) : ¬ ((1 : Int32) = (0 : Int32)))).2) (by decide) (by decide) ?_
        refine XS.iconst X111.here hx rfl (hb hby own_d_prog_28_m3_42) ?_
        refine XS.istoreN X111.here hx rfl (hb hby own_d_prog_28_m3_43) rfl (l' := #[.val (.ref oa), .val (.int (0 : Int32)), .val (.int (1 : Int32))]) rfl ?_
        refine XS.iinc X111.here hx rfl (hb hby own_d_prog_28_m3_44) rfl (l' := #[.val (.ref oa), .val (.int (0 : Int32)), .val (.int (2 : Int32))]) rfl ?_
        refine XS.goto X111.here hx rfl (pc0 := 47) (pc' := 15) rfl (hb hby own_d_prog_28_m3_47) (by decide) (by decide) ?_
        refine XS.iloadN X111.here hx rfl (hb hby own_d_prog_28_m3_15) rfl ?_
        refine XS.ifYes X111.here hx rfl (pc0 := 16) (pc' := 50) rfl (hb hby own_d_prog_28_m3_16) rfl ((if0 _ _).trans (teq ((by decide) : (0 : Int32) = (0 : Int32))).1) (by decide) (by decide) ?_
        refine XS.iloadN X111.here hx rfl (hb hby own_d_prog_28_m3_50) rfl ?_
        exact k)
      exact own_retN X111 hx (t := .boolean) (w := (0 : Int32)) hret (by decide) rfl hlk (hb hby own_d_prog_28_m3_51) (by rw [e111]; exact (Or.inr (⟨rfl, N111, KK111, (Or.inr (g111_0))⟩))) (by decide) (by decide)
    · skip
      subst hv111
      obtain ⟨h111, e111⟩ : ∃ z, T111.heap = z := ⟨_, rfl⟩
      rw [e111] at K111
      have Xo111 : Old Z n0 h111 := Xo110.keep K111 all0
      have KK111 : Keep h0 h111 [] := KK110.trans K111 all0
      have N111 := Fr.app N110 N111q
      refine own_to (V := T111.setTop (mkF m 35 #[.val (.ref oa), .val (.int (1 : Int32)), .val (.int (1 : Int32))] [(.int (0 : Int32))])) ?_ st111
      refine own_to (V := T111.setTop (mkF m 21 #[.val (.ref oa), .val (.int (1 : Int32)), .val (.int (2 : Int32))] [(.ref oa), (.int (2 : Int32))])) ?_ fun t k => (by
        refine XS.ifNo X111.here hx rfl (hb hby own_d_prog_28_m3_35) rfl ((if0 _ _).trans (teq ((by decide) : (0 : Int32) = (0 : Int32))).2) ?_
        refine XS.iconst X111.here hx rfl (hb hby own_d_prog_28_m3_38) ?_
        refine XS.goto X111.here hx rfl (pc0 := 39) (pc' := 43) rfl (hb hby own_d_prog_28_m3_39) (by decide) (by decide) ?_
        refine XS.istoreN X111.here hx rfl (hb hby own_d_prog_28_m3_43) rfl (l' := #[.val (.ref oa), .val (.int (1 : Int32)), .val (.int (1 : Int32))]) rfl ?_
        refine XS.iinc X111.here hx rfl (hb hby own_d_prog_28_m3_44) rfl (l' := #[.val (.ref oa), .val (.int (1 : Int32)), .val (.int (2 : Int32))]) rfl ?_
        refine XS.goto X111.here hx rfl (pc0 := 47) (pc' := 15) rfl (hb hby own_d_prog_28_m3_47) (by decide) (by decide) ?_
        refine XS.iloadN X111.here hx rfl (hb hby own_d_prog_28_m3_15) rfl ?_
        refine XS.ifNo X111.here hx rfl (hb hby own_d_prog_28_m3_16) rfl ((if0 _ _).trans (feq ((by decide) : ¬ ((1 : Int32) = (0 : Int32)))).1) ?_
        refine XS.iloadN X111.here hx rfl (hb hby own_d_prog_28_m3_19) rfl ?_
        refine XS.aloadN X111.here hx rfl (hb hby own_d_prog_28_m3_20) rfl rfl ?_
        exact k)
      have F114 : own_Str Z h111 oa ou ([w0, w1] : List Int32) := ((F109.keep K110 List.not_mem_nil List.not_mem_nil).keep K111 List.not_mem_nil List.not_mem_nil)
      obtain ⟨sE113, sd113, sN113, sk113, sv113, sV113, sC113, sK113, sc113, sb113, sl113⟩ := id F114
      obtain ⟨cq112, kq112, q112a, q112b, q112c⟩ := isOf hZ e111 F114.1
      obtain ⟨_, _, ⟨T112, L112, k112, n112⟩, -, X112, ⟨Lc112, hQ112, l112, y112, z112⟩, st112⟩ := X111.virtualBack hx (y := (⟨"java/lang/String", "length", "()I"⟩ : MethodName)) (z := (⟨"java/lang/String", "length", "()I"⟩ : MethodName)) hown (mvT hZ (hw _ (List.mem_of_getElem? (i := 81) rfl))) (mvT hZ (hw _ (List.mem_of_getElem? (i := 82) rfl))) (notFace_of_selects (args := #[]) (mvT hZ (hw _ (List.mem_of_getElem? (i := 84) rfl)))) (mvT hZ (hw _ (List.mem_of_getElem? (i := 84) rfl))) (mvT hZ (hw _ (List.mem_of_getElem? (i := 83) rfl))) (by decide) (StrChars.Road.lenW (W := 1) hZ (own_hln hw) (kI := 4) (hw _ (List.mem_of_getElem? (i := 7) rfl)) sE113 sV113 sC113 sK113 sc113 sb113 (O2.ext Xo111.2) P5 sl113 (by decide) (by decide)) q112a q112c (g := (mkF m 21 #[.val (.ref oa), .val (.int (1 : Int32)), .val (.int (2 : Int32))] [(.ref oa), (.int (2 : Int32))])) rfl (by rw [hml]; rfl) (Steps.refl _) (argsL := []) (rest := [(.int (2 : Int32))]) (lenOf own_pd17 rfl) rfl (by show 2 * 0 + _ ≤ _; exact Nat.le_of_eq rfl) (hb hby own_d_prog_28_m3_21) (fun _ _ => ⟨rfl, e111, (by decide : 0 + 0 ≤ _), (by decide : 0 + 0 ≤ _)⟩)
      dsimp only [Pt.U, Pt.locs, Pt.cells, Pt.slots] at X112 l112 y112 z112 st112 hQ112
      subst l112 y112 z112
      obtain ⟨hv112, hL112, hh112⟩ := hQ112
      subst hL112
      have N112 := Fr.app N111 (Fr.nil n0)
      subst hv112
      refine own_to (V := T112.setTop (mkF m 24 #[.val (.ref oa), .val (.int (1 : Int32)), .val (.int (2 : Int32))] [(.int (2 : Int32)), (.int (2 : Int32))])) ?_ (fun t k => st112.trans k)
      refine own_to (V := T112.setTop (mkF m 51 #[.val (.ref oa), .val (.int (1 : Int32)), .val (.int (2 : Int32))] [(.int (1 : Int32))])) ?_ fun t k => (by
        refine XS.icmpYes X112.here hx rfl (pc0 := 24) (pc' := 50) rfl (hb hby own_d_prog_28_m3_24) rfl (flt ((by decide) : ¬ ((2 : Int32) < (2 : Int32)))).2.1 (by decide) (by decide) ?_
        refine XS.iloadN X112.here hx rfl (hb hby own_d_prog_28_m3_50) rfl ?_
        exact k)
      exact own_retN X112 hx (t := .boolean) (w := (1 : Int32)) hret (by decide) rfl hlk (hb hby own_d_prog_28_m3_51) (by rw [hh112]; exact (Or.inl ⟨rfl, N112, KK111, g106_0, g111_0⟩)) (by decide) (by decide)
def own_Qisid3 (Z : State) (oa : Addr) (ou : Addr) (w0 : Int32) (w1 : Int32) (w2 : Int32) (h0 : Heap) (n0 : Nat) (v : Option Value) (h : Heap) (L : List Loc) : Prop := (v = some (.int (1 : Int32)) ∧ Fr n0 L ∧ Keep h0 h [] ∧ (¬ own_ctl w0) ∧ (¬ own_ctl w1) ∧ (¬ own_ctl w2)) ∨ (v = some (.int (0 : Int32)) ∧ Fr n0 L ∧ Keep h0 h [] ∧ (own_ctl w0 ∨ own_ctl w1 ∨ own_ctl w2))
theorem own_ef_isid3 (m : MethodId) (oa : Addr)  : entryFrame m #[(.ref oa)] 3 = mkF m 0 #[.val (.ref oa), .unset, .unset] [] := by first | (simp [entryFrame, mkF, argsToLocals, Value.category]; done) | rfl
set_option maxRecDepth 65536 in
set_option maxHeartbeats 40000000 in
theorem own_rmisid3 (l : Launch) (Z : State) (a0 : Array Value) (hw : ∀ d ∈ tables_1, d.before a0 Z = true) (hst : own_St Z) (ws : List Jvm.Cond) (oa : Addr) (ou : Addr) (w0 : Int32) (w1 : Int32) (w2 : Int32) (h0 : Heap) (n0 : Nat) (X00 : Old Z n0 h0) (hS : own_Str Z h0 oa ou ([w0, w1, w2] : List Int32)) (hr0 : ¬ w0 < 0 ∧ ¬ (65535 : Int32) < w0) (hr1 : ¬ w1 < 0 ∧ ¬ (65535 : Int32) < w1) (hr2 : ¬ w2 < 0 ∧ ¬ (65535 : Int32) < w2) :
    MetFree l (⟨"com/example/turnwise/turnwise/input/Ids", "isId", "(Ljava/lang/String;)Z"⟩ : MethodName) (head1 (Jvm.Cond.code (⟨"com/example/turnwise/turnwise/input/Ids", "isId", "(Ljava/lang/String;)Z"⟩ : MethodName) prog_28_method_3_code 3 (Option.some Jvm.ClassFile.FieldType.boolean) :: ws) ({ frames := 5, cells := 0, slots := 0, locals := 66 } : Room)) (fun a U => a = #[(.ref oa)] ∧ Z.Warmed39 U.vm ∧ U.heap = h0) (fun _ _ _ _ _ => True) (fun _ U o U' => ∃ v L, o = .returned v ∧ own_Qisid3 Z oa ou w0 w1 w2 h0 n0 v U'.heap L ∧ FrameEnd U o U' L ({ frames := 5, cells := 0, slots := 0, locals := 66 } : Room).cells ({ frames := 5, cells := 0, slots := 0, locals := 66 } : Room).slots) := by
  refine MetFree.of_bodySF (plainFor_of_name own_pn6) hisR ?_
  intro p e s m args below meth c s₁ Bd hml0 hP hK
  obtain ⟨rfl, hZ, hh⟩ := hP
  have hx := Bd.exec
  have hby := Bd.bytes
  have hret := Bd.returns
  have hlk : meth.locks = false := BodyLoose.notSynchronized Bd
  have hml : c.maxLocals = 3 := hml0
  have hown : s.vm.findClass "com/example/turnwise/turnwise/input/Ids" = some m.cls := findClass_of_methodNamed Bd.named
  have hnm := (name_of_methodNamed Bd.named Bd.method).1
  have X0 : Stand p l e ({ frames := 5, cells := 0, slots := 0, locals := 66 } : Room) s m #[(.ref oa)] below meth c s₁ [] 0 0 := Stand.of_body Bd
  have e0 : s₁.heap = h0 := by rw [← hh, Bd.state]; rfl
  have N0 := Fr.nil n0
  have KK0 : Keep h0 h0 [] := Keep.refl h0 _
  refine own_start (own_Qisid3 Z oa ou w0 w1 w2 h0 n0) ?_
  refine own_to (V := s₁.setTop (mkF m 0 #[.val (.ref oa), .unset, .unset] [])) ?_ (fun t k => castTop (own_ef_isid3 m oa ) k)
  obtain ⟨⟨G1, O2, P5⟩, ⟨G3, O4, rG3⟩, ⟨uO1, uO2, uO3⟩, -⟩ := id hst
  refine own_to (V := s₁.setTop (mkF m 1 #[.val (.ref oa), .unset, .unset] [(.ref oa)])) ?_ fun t k => (by
    refine XS.aloadN X0.here hx rfl (hb hby own_d_prog_28_m3_0) rfl rfl ?_
    exact k)
  obtain ⟨sE102, sd102, sN102, sk102, sv102, sV102, sC102, sK102, sc102, sb102, sl102⟩ := id hS
  obtain ⟨cq101, kq101, q101a, q101b, q101c⟩ := isOf hZ e0 hS.1
  obtain ⟨_, _, ⟨T101, L101, k101, n101⟩, -, X101, ⟨Lc101, hQ101, l101, y101, z101⟩, st101⟩ := X0.virtualBack hx (y := (⟨"java/lang/String", "isEmpty", "()Z"⟩ : MethodName)) (z := (⟨"java/lang/String", "isEmpty", "()Z"⟩ : MethodName)) hown (mvT hZ (hw _ (List.mem_of_getElem? (i := 76) rfl))) (mvT hZ (hw _ (List.mem_of_getElem? (i := 77) rfl))) (notFace_of_selects (args := #[]) (mvT hZ (hw _ (List.mem_of_getElem? (i := 79) rfl)))) (mvT hZ (hw _ (List.mem_of_getElem? (i := 79) rfl))) (mvT hZ (hw _ (List.mem_of_getElem? (i := 78) rfl))) (by decide) (StrChars.Road.empW (W := 0) hZ (own_hem hw) (kI := 4) (hw _ (List.mem_of_getElem? (i := 7) rfl)) sE102 sV102 sC102 sK102 sc102 sb102 sl102 (by decide) (by decide)) q101a q101c (g := (mkF m 1 #[.val (.ref oa), .unset, .unset] [(.ref oa)])) rfl (by rw [hml]; rfl) (Steps.refl _) (argsL := []) (rest := []) (lenOf own_pd12 rfl) rfl (by show 2 * 0 + _ ≤ _; exact Nat.le_of_eq rfl) (hb hby own_d_prog_28_m3_1) (fun _ _ => ⟨rfl, e0, (by decide : 0 + 0 ≤ _), (by decide : 0 + 0 ≤ _)⟩)
  dsimp only [Pt.U, Pt.locs, Pt.cells, Pt.slots] at X101 l101 y101 z101 st101 hQ101
  subst l101 y101 z101
  obtain ⟨hv101, hL101, hh101⟩ := hQ101
  subst hL101
  have N101 := Fr.app N0 (Fr.nil n0)
  subst hv101
  refine own_to (V := T101.setTop (mkF m 4 #[.val (.ref oa), .unset, .unset] [(.int (0 : Int32))])) ?_ (fun t k => st101.trans k)
  refine own_to (V := T101.setTop (mkF m 21 #[.val (.ref oa), .val (.int (1 : Int32)), .val (.int (0 : Int32))] [(.ref oa), (.int (0 : Int32))])) ?_ fun t k => (by
    refine XS.ifNo X101.here hx rfl (hb hby own_d_prog_28_m3_4) rfl ((if0 _ _).trans (teq ((by decide) : (0 : Int32) = (0 : Int32))).2) ?_
    refine XS.iconst X101.here hx rfl (hb hby own_d_prog_28_m3_7) ?_
    refine XS.goto X101.here hx rfl (pc0 := 8) (pc' := 12) rfl (hb hby own_d_prog_28_m3_8) (by decide) (by decide) ?_
    refine XS.istoreN X101.here hx rfl (hb hby own_d_prog_28_m3_12) rfl (l' := #[.val (.ref oa), .val (.int (1 : Int32)), .unset]) rfl ?_
    refine XS.iconst X101.here hx rfl (hb hby own_d_prog_28_m3_13) ?_
    refine XS.istoreN X101.here hx rfl (hb hby own_d_prog_28_m3_14) rfl (l' := #[.val (.ref oa), .val (.int (1 : Int32)), .val (.int (0 : Int32))]) rfl ?_
    refine XS.iloadN X101.here hx rfl (hb hby own_d_prog_28_m3_15) rfl ?_
    refine XS.ifNo X101.here hx rfl (hb hby own_d_prog_28_m3_16) rfl ((if0 _ _).trans (feq ((by decide) : ¬ ((1 : Int32) = (0 : Int32)))).1) ?_
    refine XS.iloadN X101.here hx rfl (hb hby own_d_prog_28_m3_19) rfl ?_
    refine XS.aloadN X101.here hx rfl (hb hby own_d_prog_28_m3_20) rfl rfl ?_
    exact k)
  obtain ⟨sE104, sd104, sN104, sk104, sv104, sV104, sC104, sK104, sc104, sb104, sl104⟩ := id hS
  obtain ⟨cq103, kq103, q103a, q103b, q103c⟩ := isOf hZ hh101 hS.1
  obtain ⟨_, _, ⟨T103, L103, k103, n103⟩, -, X103, ⟨Lc103, hQ103, l103, y103, z103⟩, st103⟩ := X101.virtualBack hx (y := (⟨"java/lang/String", "length", "()I"⟩ : MethodName)) (z := (⟨"java/lang/String", "length", "()I"⟩ : MethodName)) hown (mvT hZ (hw _ (List.mem_of_getElem? (i := 81) rfl))) (mvT hZ (hw _ (List.mem_of_getElem? (i := 82) rfl))) (notFace_of_selects (args := #[]) (mvT hZ (hw _ (List.mem_of_getElem? (i := 84) rfl)))) (mvT hZ (hw _ (List.mem_of_getElem? (i := 84) rfl))) (mvT hZ (hw _ (List.mem_of_getElem? (i := 83) rfl))) (by decide) (StrChars.Road.lenW (W := 1) hZ (own_hln hw) (kI := 4) (hw _ (List.mem_of_getElem? (i := 7) rfl)) sE104 sV104 sC104 sK104 sc104 sb104 (O2.ext X00.2) P5 sl104 (by decide) (by decide)) q103a q103c (g := (mkF m 21 #[.val (.ref oa), .val (.int (1 : Int32)), .val (.int (0 : Int32))] [(.ref oa), (.int (0 : Int32))])) rfl (by rw [hml]; rfl) (Steps.refl _) (argsL := []) (rest := [(.int (0 : Int32))]) (lenOf own_pd17 rfl) rfl (by show 2 * 0 + _ ≤ _; exact Nat.le_of_eq rfl) (hb hby own_d_prog_28_m3_21) (fun _ _ => ⟨rfl, hh101, (by decide : 0 + 0 ≤ _), (by decide : 0 + 0 ≤ _)⟩)
  dsimp only [Pt.U, Pt.locs, Pt.cells, Pt.slots] at X103 l103 y103 z103 st103 hQ103
  subst l103 y103 z103
  obtain ⟨hv103, hL103, hh103⟩ := hQ103
  subst hL103
  have N103 := Fr.app N101 (Fr.nil n0)
  subst hv103
  refine own_to (V := T103.setTop (mkF m 24 #[.val (.ref oa), .val (.int (1 : Int32)), .val (.int (0 : Int32))] [(.int (3 : Int32)), (.int (0 : Int32))])) ?_ (fun t k => st103.trans k)
  refine own_to (V := T103.setTop (mkF m 29 #[.val (.ref oa), .val (.int (1 : Int32)), .val (.int (0 : Int32))] [(.int (0 : Int32)), (.ref oa)])) ?_ fun t k => (by
    refine XS.icmpNo X103.here hx rfl (hb hby own_d_prog_28_m3_24) rfl (tlt ((by decide) : (0 : Int32) < (3 : Int32))).2.1 ?_
    refine XS.aloadN X103.here hx rfl (hb hby own_d_prog_28_m3_27) rfl rfl ?_
    refine XS.iloadN X103.here hx rfl (hb hby own_d_prog_28_m3_28) rfl ?_
    exact k)
  obtain ⟨cq105, kq105, q105a, q105b, q105c⟩ := isOf hZ hh103 hS.1
  obtain ⟨_, _, ⟨T105, L105, k105, n105⟩, -, X105, ⟨Lc105, hQ105, l105, y105, z105⟩, st105⟩ := X103.virtualBack hx (y := (⟨"java/lang/String", "charAt", "(I)C"⟩ : MethodName)) (z := (⟨"java/lang/String", "charAt", "(I)C"⟩ : MethodName)) hown (mvT hZ (hw _ (List.mem_of_getElem? (i := 91) rfl))) (mvT hZ (hw _ (List.mem_of_getElem? (i := 92) rfl))) (notFace_of_selects (args := #[]) (mvT hZ (hw _ (List.mem_of_getElem? (i := 94) rfl)))) (mvT hZ (hw _ (List.mem_of_getElem? (i := 94) rfl))) (mvT hZ (hw _ (List.mem_of_getElem? (i := 93) rfl))) (by decide) (backOf (W := 0) (own_rmchw l Z a0 hw hst [] oa ou ([w0, w1, w2] : List Int32) ([] : List Int32) w0 ([w1, w2] : List Int32) h0 n0 X00 hS rfl hr0 (Nat.le_of_ble_eq_true rfl)) hZ (hw _ (List.mem_of_getElem? (i := 95) rfl)) (hw _ (List.mem_of_getElem? (i := 8) rfl)) (by decide) (by decide)) q105a q105c (g := (mkF m 29 #[.val (.ref oa), .val (.int (1 : Int32)), .val (.int (0 : Int32))] [(.int (0 : Int32)), (.ref oa)])) rfl (by rw [hml]; rfl) (Steps.refl _) (argsL := [(.int (0 : Int32))]) (rest := []) (lenOf own_pd18 rfl) rfl (by show 2 * 0 + _ ≤ _; exact Nat.le_of_eq rfl) (hb hby own_d_prog_28_m3_29) (fun _ _ => ⟨rfl, hh103, (by decide : 0 + 0 ≤ _), (by decide : 0 + 0 ≤ _)⟩)
  dsimp only [Pt.U, Pt.locs, Pt.cells, Pt.slots] at X105 l105 y105 z105 st105 hQ105
  subst l105 y105 z105
  obtain ⟨hv105, N105q, K105⟩ := hQ105
  subst hv105
  obtain ⟨h105, e105⟩ : ∃ z, T105.heap = z := ⟨_, rfl⟩
  rw [e105] at K105
  have Xo105 : Old Z n0 h105 := X00.keep K105 all0
  have KK105 : Keep h0 h105 [] := KK0.trans K105 all0
  have N105 := Fr.app N103 N105q
  refine own_to (V := T105.setTop (mkF m 32 #[.val (.ref oa), .val (.int (1 : Int32)), .val (.int (0 : Int32))] [(.int w0)])) ?_ (fun t k => st105.trans k)
  obtain ⟨_, _, ⟨T106, L106, k106, n106⟩, -, X106, ⟨Lc106, hQ106, l106, y106, z106⟩, st106⟩ := Jvm.LawKit.callS X105 hx (y := (⟨"java/lang/Character", "isISOControl", "(C)Z"⟩ : MethodName)) hown (mvT hZ (hw _ (List.mem_of_getElem? (i := 118) rfl))) (mvT hZ (hw _ (List.mem_of_getElem? (i := 119) rfl))) (mvT hZ (hw _ (List.mem_of_getElem? (i := 120) rfl))) (mvT hZ (hw _ (List.mem_of_getElem? (i := 121) rfl))) (by decide) (backOf (W := 0) (own_rmisoc l Z a0 hw hst [] w0 h105 n0 Xo105 hr0) hZ (hw _ (List.mem_of_getElem? (i := 121) rfl)) (hw _ (List.mem_of_getElem? (i := 120) rfl)) (by decide) (by decide)) (g := (mkF m 32 #[.val (.ref oa), .val (.int (1 : Int32)), .val (.int (0 : Int32))] [(.int w0)])) rfl (by rw [hml]; rfl) (argsL := [(.int w0)]) (rest := []) (lenOf own_pd13 rfl) rfl (by show 2 * 0 + _ ≤ _; exact Nat.le_of_eq rfl) (hb hby own_d_prog_28_m3_32) (fun _ _ => ⟨rfl, e105, (by decide : 0 + 0 ≤ _), (by decide : 0 + 0 ≤ _)⟩)
  dsimp only [Pt.U, Pt.locs, Pt.cells, Pt.slots] at X106 l106 y106 z106 st106 hQ106
  subst l106 y106 z106
  rcases hQ106 with ⟨hv106, N106q, K106, g106_0⟩ | ⟨hv106, N106q, K106, g106_0⟩
  · skip
    subst hv106
    obtain ⟨h106, e106⟩ : ∃ z, T106.heap = z := ⟨_, rfl⟩
    rw [e106] at K106
    have Xo106 : Old Z n0 h106 := Xo105.keep K106 all0
    have KK106 : Keep h0 h106 [] := KK105.trans K106 all0
    have N106 := Fr.app N105 N106q
    refine own_to (V := T106.setTop (mkF m 35 #[.val (.ref oa), .val (.int (1 : Int32)), .val (.int (0 : Int32))] [(.int (1 : Int32))])) ?_ st106
    refine own_to (V := T106.setTop (mkF m 51 #[.val (.ref oa), .val (.int (0 : Int32)), .val (.int (1 : Int32))] [(.int (0 : Int32))])) ?_ fun t k => (by
      refine XS.ifYes X106.here hx rfl (pc0 := 35) (pc' := 42) rfl (hb hby own_d_prog_28_m3_35) rfl ((if0 _ _).trans (feq ((by decide) : ¬ ((1 : Int32) = (0 : Int32)))).2) (by decide) (by decide) ?_
      refine XS.iconst X106.here hx rfl (hb hby own_d_prog_28_m3_42) ?_
      refine XS.istoreN X106.here hx rfl (hb hby own_d_prog_28_m3_43) rfl (l' := #[.val (.ref oa), .val (.int (0 : Int32)), .val (.int (0 : Int32))]) rfl ?_
      refine XS.iinc X106.here hx rfl (hb hby own_d_prog_28_m3_44) rfl (l' := #[.val (.ref oa), .val (.int (0 : Int32)), .val (.int (1 : Int32))]) rfl ?_
      refine XS.goto X106.here hx rfl (pc0 := 47) (pc' := 15) rfl (hb hby own_d_prog_28_m3_47) (by decide) (by decide) ?_
      refine XS.iloadN X106.here hx rfl (hb hby own_d_prog_28_m3_15) rfl ?_
      refine XS.ifYes X106.here hx rfl (pc0 := 16) (pc' := 50) rfl (hb hby own_d_prog_28_m3_16) rfl ((if0 _ _).trans (teq ((by decide) : (0 : Int32) = (0 : Int32))).1) (by decide) (by decide) ?_
      refine XS.iloadN X106.here hx rfl (hb hby own_d_prog_28_m3_50) rfl ?_
      exact k)
    exact own_retN X106 hx (t := .boolean) (w := (0 : Int32)) hret (by decide) rfl hlk (hb hby own_d_prog_28_m3_51) (by rw [e106]; exact (Or.inr (⟨rfl, N106, KK106, (Or.inl g106_0)⟩))) (by decide) (by decide)
  · skip
    subst hv106
    obtain ⟨h106, e106⟩ : ∃ z, T106.heap = z := ⟨_, rfl⟩
    rw [e106] at K106
    have Xo106 : Old Z n0 h106 := Xo105.keep K106 all0
    have KK106 : Keep h0 h106 [] := KK105.trans K106 all0
    have N106 := Fr.app N105 N106q
    refine own_to (V := T106.setTop (mkF m 35 #[.val (.ref oa), .val (.int (1 : Int32)), .val (.int (0 : Int32))] [(.int (0 : Int32))])) ?_ st106
    refine own_to (V := T106.setTop (mkF m 21 #[.val (.ref oa), .val (.int (1 : Int32)), .val (.int (1 : Int32))] [(.ref oa), (.int (1 : Int32))])) ?_ fun t k => (by
      refine XS.ifNo X106.here hx rfl (hb hby own_d_prog_28_m3_35) rfl ((if0 _ _).trans (teq ((by decide) : (0 : Int32) = (0 : Int32))).2) ?_
      refine XS.iconst X106.here hx rfl (hb hby own_d_prog_28_m3_38) ?_
      refine XS.goto X106.here hx rfl (pc0 := 39) (pc' := 43) rfl (hb hby own_d_prog_28_m3_39) (by decide) (by decide) ?_
      refine XS.istoreN X106.here hx rfl (hb hby own_d_prog_28_m3_43) rfl (l' := #[.val (.ref oa), .val (.int (1 : Int32)), .val (.int (0 : Int32))]) rfl ?_
      refine XS.iinc X106.here hx rfl (hb hby own_d_prog_28_m3_44) rfl (l' := #[.val (.ref oa), .val (.int (1 : Int32)), .val (.int (1 : Int32))]) rfl ?_
      refine XS.goto X106.here hx rfl (pc0 := 47) (pc' := 15) rfl (hb hby own_d_prog_28_m3_47) (by decide) (by decide) ?_
      refine XS.iloadN X106.here hx rfl (hb hby own_d_prog_28_m3_15) rfl ?_
      refine XS.ifNo X106.here hx rfl (hb hby own_d_prog_28_m3_16) rfl ((if0 _ _).trans (feq ((by decide) : ¬ ((1 : Int32) = (0 : Int32)))).1) ?_
      refine XS.iloadN X106.here hx rfl (hb hby own_d_prog_28_m3_19) rfl ?_
      refine XS.aloadN X106.here hx rfl (hb hby own_d_prog_28_m3_20) rfl rfl ?_
      exact k)
    have F109 : own_Str Z h106 oa ou ([w0, w1, w2] : List Int32) := ((hS.keep K105 List.not_mem_nil List.not_mem_nil).keep K106 List.not_mem_nil List.not_mem_nil)
    obtain ⟨sE108, sd108, sN108, sk108, sv108, sV108, sC108, sK108, sc108, sb108, sl108⟩ := id F109
    obtain ⟨cq107, kq107, q107a, q107b, q107c⟩ := isOf hZ e106 F109.1
    obtain ⟨_, _, ⟨T107, L107, k107, n107⟩, -, X107, ⟨Lc107, hQ107, l107, y107, z107⟩, st107⟩ := X106.virtualBack hx (y := (⟨"java/lang/String", "length", "()I"⟩ : MethodName)) (z := (⟨"java/lang/String", "length", "()I"⟩ : MethodName)) hown (mvT hZ (hw _ (List.mem_of_getElem? (i := 81) rfl))) (mvT hZ (hw _ (List.mem_of_getElem? (i := 82) rfl))) (notFace_of_selects (args := #[]) (mvT hZ (hw _ (List.mem_of_getElem? (i := 84) rfl)))) (mvT hZ (hw _ (List.mem_of_getElem? (i := 84) rfl))) (mvT hZ (hw _ (List.mem_of_getElem? (i := 83) rfl))) (by decide) (StrChars.Road.lenW (W := 1) hZ (own_hln hw) (kI := 4) (hw _ (List.mem_of_getElem? (i := 7) rfl)) sE108 sV108 sC108 sK108 sc108 sb108 (O2.ext Xo106.2) P5 sl108 (by decide) (by decide)) q107a q107c (g := (mkF m 21 #[.val (.ref oa), .val (.int (1 : Int32)), .val (.int (1 : Int32))] [(.ref oa), (.int (1 : Int32))])) rfl (by rw [hml]; rfl) (Steps.refl _) (argsL := []) (rest := [(.int (1 : Int32))]) (lenOf own_pd17 rfl) rfl (by show 2 * 0 + _ ≤ _; exact Nat.le_of_eq rfl) (hb hby own_d_prog_28_m3_21) (fun _ _ => ⟨rfl, e106, (by decide : 0 + 0 ≤ _), (by decide : 0 + 0 ≤ _)⟩)
    dsimp only [Pt.U, Pt.locs, Pt.cells, Pt.slots] at X107 l107 y107 z107 st107 hQ107
    subst l107 y107 z107
    obtain ⟨hv107, hL107, hh107⟩ := hQ107
    subst hL107
    have N107 := Fr.app N106 (Fr.nil n0)
    subst hv107
    refine own_to (V := T107.setTop (mkF m 24 #[.val (.ref oa), .val (.int (1 : Int32)), .val (.int (1 : Int32))] [(.int (3 : Int32)), (.int (1 : Int32))])) ?_ (fun t k => st107.trans k)
    refine own_to (V := T107.setTop (mkF m 29 #[.val (.ref oa), .val (.int (1 : Int32)), .val (.int (1 : Int32))] [(.int (1 : Int32)), (.ref oa)])) ?_ fun t k => (by
      refine XS.icmpNo X107.here hx rfl (hb hby own_d_prog_28_m3_24) rfl (tlt ((by decide) : (1 : Int32) < (3 : Int32))).2.1 ?_
      refine XS.aloadN X107.here hx rfl (hb hby own_d_prog_28_m3_27) rfl rfl ?_
      refine XS.iloadN X107.here hx rfl (hb hby own_d_prog_28_m3_28) rfl ?_
      exact k)
    obtain ⟨cq110, kq110, q110a, q110b, q110c⟩ := isOf hZ hh107 F109.1
    obtain ⟨_, _, ⟨T110, L110, k110, n110⟩, -, X110, ⟨Lc110, hQ110, l110, y110, z110⟩, st110⟩ := X107.virtualBack hx (y := (⟨"java/lang/String", "charAt", "(I)C"⟩ : MethodName)) (z := (⟨"java/lang/String", "charAt", "(I)C"⟩ : MethodName)) hown (mvT hZ (hw _ (List.mem_of_getElem? (i := 91) rfl))) (mvT hZ (hw _ (List.mem_of_getElem? (i := 92) rfl))) (notFace_of_selects (args := #[]) (mvT hZ (hw _ (List.mem_of_getElem? (i := 94) rfl)))) (mvT hZ (hw _ (List.mem_of_getElem? (i := 94) rfl))) (mvT hZ (hw _ (List.mem_of_getElem? (i := 93) rfl))) (by decide) (backOf (W := 0) (own_rmchw l Z a0 hw hst [] oa ou ([w0, w1, w2] : List Int32) ([w0] : List Int32) w1 ([w2] : List Int32) h106 n0 Xo106 F109 rfl hr1 (Nat.le_of_ble_eq_true rfl)) hZ (hw _ (List.mem_of_getElem? (i := 95) rfl)) (hw _ (List.mem_of_getElem? (i := 8) rfl)) (by decide) (by decide)) q110a q110c (g := (mkF m 29 #[.val (.ref oa), .val (.int (1 : Int32)), .val (.int (1 : Int32))] [(.int (1 : Int32)), (.ref oa)])) rfl (by rw [hml]; rfl) (Steps.refl _) (argsL := [(.int (1 : Int32))]) (rest := []) (lenOf own_pd18 rfl) rfl (by show 2 * 0 + _ ≤ _; exact Nat.le_of_eq rfl) (hb hby own_d_prog_28_m3_29) (fun _ _ => ⟨rfl, hh107, (by decide : 0 + 0 ≤ _), (by decide : 0 + 0 ≤ _)⟩)
    dsimp only [Pt.U, Pt.locs, Pt.cells, Pt.slots] at X110 l110 y110 z110 st110 hQ110
    subst l110 y110 z110
    obtain ⟨hv110, N110q, K110⟩ := hQ110
    subst hv110
    obtain ⟨h110, e110⟩ : ∃ z, T110.heap = z := ⟨_, rfl⟩
    rw [e110] at K110
    have Xo110 : Old Z n0 h110 := Xo106.keep K110 all0
    have KK110 : Keep h0 h110 [] := KK106.trans K110 all0
    have N110 := Fr.app N107 N110q
    refine own_to (V := T110.setTop (mkF m 32 #[.val (.ref oa), .val (.int (1 : Int32)), .val (.int (1 : Int32))] [(.int w1)])) ?_ (fun t k => st110.trans k)
    obtain ⟨_, _, ⟨T111, L111, k111, n111⟩, -, X111, ⟨Lc111, hQ111, l111, y111, z111⟩, st111⟩ := Jvm.LawKit.callS X110 hx (y := (⟨"java/lang/Character", "isISOControl", "(C)Z"⟩ : MethodName)) hown (mvT hZ (hw _ (List.mem_of_getElem? (i := 118) rfl))) (mvT hZ (hw _ (List.mem_of_getElem? (i := 119) rfl))) (mvT hZ (hw _ (List.mem_of_getElem? (i := 120) rfl))) (mvT hZ (hw _ (List.mem_of_getElem? (i := 121) rfl))) (by decide) (backOf (W := 0) (own_rmisoc l Z a0 hw hst [] w1 h110 n0 Xo110 hr1) hZ (hw _ (List.mem_of_getElem? (i := 121) rfl)) (hw _ (List.mem_of_getElem? (i := 120) rfl)) (by decide) (by decide)) (g := (mkF m 32 #[.val (.ref oa), .val (.int (1 : Int32)), .val (.int (1 : Int32))] [(.int w1)])) rfl (by rw [hml]; rfl) (argsL := [(.int w1)]) (rest := []) (lenOf own_pd13 rfl) rfl (by show 2 * 0 + _ ≤ _; exact Nat.le_of_eq rfl) (hb hby own_d_prog_28_m3_32) (fun _ _ => ⟨rfl, e110, (by decide : 0 + 0 ≤ _), (by decide : 0 + 0 ≤ _)⟩)
    dsimp only [Pt.U, Pt.locs, Pt.cells, Pt.slots] at X111 l111 y111 z111 st111 hQ111
    subst l111 y111 z111
    rcases hQ111 with ⟨hv111, N111q, K111, g111_0⟩ | ⟨hv111, N111q, K111, g111_0⟩
    · skip
      subst hv111
      obtain ⟨h111, e111⟩ : ∃ z, T111.heap = z := ⟨_, rfl⟩
      rw [e111] at K111
      have Xo111 : Old Z n0 h111 := Xo110.keep K111 all0
      have KK111 : Keep h0 h111 [] := KK110.trans K111 all0
      have N111 := Fr.app N110 N111q
      refine own_to (V := T111.setTop (mkF m 35 #[.val (.ref oa), .val (.int (1 : Int32)), .val (.int (1 : Int32))] [(.int (1 : Int32))])) ?_ st111
      refine own_to (V := T111.setTop (mkF m 51 #[.val (.ref oa), .val (.int (0 : Int32)), .val (.int (2 : Int32))] [(.int (0 : Int32))])) ?_ fun t k => (by
        refine XS.ifYes X111.here hx rfl (pc0 := 35) (pc' := 42) rfl (hb hby own_d_prog_28_m3_35) rfl ((if0 _ _).trans (feq ((by decide) : ¬ ((1 : Int32) = (0 : Int32)))).2) (by decide) (by decide) ?_
        refine XS.iconst X111.here hx rfl (hb hby own_d_prog_28_m3_42) ?_
        refine XS.istoreN X111.here hx rfl (hb hby own_d_prog_28_m3_43) rfl (l' := #[.val (.ref oa), .val (.int (0 : Int32)), .val (.int (1 : Int32))]) rfl ?_
        refine XS.iinc X111.here hx rfl (hb hby own_d_prog_28_m3_44) rfl (l' := #[.val (.ref oa), .val (.int (0 : Int32)), .val (.int (2 : Int32))]) rfl ?_
        refine XS.goto X111.here hx rfl (pc0 := 47) (pc' := 15) rfl (hb hby own_d_prog_28_m3_47) (by decide) (by decide) ?_
        refine XS.iloadN X111.here hx rfl (hb hby own_d_prog_28_m3_15) rfl ?_
        refine XS.ifYes X111.here hx rfl (pc0 := 16) (pc' := 50) rfl (hb hby own_d_prog_28_m3_16) rfl ((if0 _ _).trans (teq ((by decide) : (0 : Int32) = (0 : Int32))).1) (by decide) (by decide) ?_
        refine XS.iloadN X111.here hx rfl (hb hby own_d_prog_28_m3_50) rfl ?_
        exact k)
      exact own_retN X111 hx (t := .boolean) (w := (0 : Int32)) hret (by decide) rfl hlk (hb hby own_d_prog_28_m3_51) (by rw [e111]; exact (Or.inr (⟨rfl, N111, KK111, (Or.inr (Or.inl g111_0))⟩))) (by decide) (by decide)
    · skip
      subst hv111
      obtain ⟨h111, e111⟩ : ∃ z, T111.heap = z := ⟨_, rfl⟩
      rw [e111] at K111
      have Xo111 : Old Z n0 h111 := Xo110.keep K111 all0
      have KK111 : Keep h0 h111 [] := KK110.trans K111 all0
      have N111 := Fr.app N110 N111q
      refine own_to (V := T111.setTop (mkF m 35 #[.val (.ref oa), .val (.int (1 : Int32)), .val (.int (1 : Int32))] [(.int (0 : Int32))])) ?_ st111
      refine own_to (V := T111.setTop (mkF m 21 #[.val (.ref oa), .val (.int (1 : Int32)), .val (.int (2 : Int32))] [(.ref oa), (.int (2 : Int32))])) ?_ fun t k => (by
        refine XS.ifNo X111.here hx rfl (hb hby own_d_prog_28_m3_35) rfl ((if0 _ _).trans (teq ((by decide) : (0 : Int32) = (0 : Int32))).2) ?_
        refine XS.iconst X111.here hx rfl (hb hby own_d_prog_28_m3_38) ?_
        refine XS.goto X111.here hx rfl (pc0 := 39) (pc' := 43) rfl (hb hby own_d_prog_28_m3_39) (by decide) (by decide) ?_
        refine XS.istoreN X111.here hx rfl (hb hby own_d_prog_28_m3_43) rfl (l' := #[.val (.ref oa), .val (.int (1 : Int32)), .val (.int (1 : Int32))]) rfl ?_
        refine XS.iinc X111.here hx rfl (hb hby own_d_prog_28_m3_44) rfl (l' := #[.val (.ref oa), .val (.int (1 : Int32)), .val (.int (2 : Int32))]) rfl ?_
        refine XS.goto X111.here hx rfl (pc0 := 47) (pc' := 15) rfl (hb hby own_d_prog_28_m3_47) (by decide) (by decide) ?_
        refine XS.iloadN X111.here hx rfl (hb hby own_d_prog_28_m3_15) rfl ?_
        refine XS.ifNo X111.here hx rfl (hb hby own_d_prog_28_m3_16) rfl ((if0 _ _).trans (feq ((by decide) : ¬ ((1 : Int32) = (0 : Int32)))).1) ?_
        refine XS.iloadN X111.here hx rfl (hb hby own_d_prog_28_m3_19) rfl ?_
        refine XS.aloadN X111.here hx rfl (hb hby own_d_prog_28_m3_20) rfl rfl ?_
        exact k)
      have F114 : own_Str Z h111 oa ou ([w0, w1, w2] : List Int32) := ((F109.keep K110 List.not_mem_nil List.not_mem_nil).keep K111 List.not_mem_nil List.not_mem_nil)
      obtain ⟨sE113, sd113, sN113, sk113, sv113, sV113, sC113, sK113, sc113, sb113, sl113⟩ := id F114
      obtain ⟨cq112, kq112, q112a, q112b, q112c⟩ := isOf hZ e111 F114.1
      obtain ⟨_, _, ⟨T112, L112, k112, n112⟩, -, X112, ⟨Lc112, hQ112, l112, y112, z112⟩, st112⟩ := X111.virtualBack hx (y := (⟨"java/lang/String", "length", "()I"⟩ : MethodName)) (z := (⟨"java/lang/String", "length", "()I"⟩ : MethodName)) hown (mvT hZ (hw _ (List.mem_of_getElem? (i := 81) rfl))) (mvT hZ (hw _ (List.mem_of_getElem? (i := 82) rfl))) (notFace_of_selects (args := #[]) (mvT hZ (hw _ (List.mem_of_getElem? (i := 84) rfl)))) (mvT hZ (hw _ (List.mem_of_getElem? (i := 84) rfl))) (mvT hZ (hw _ (List.mem_of_getElem? (i := 83) rfl))) (by decide) (StrChars.Road.lenW (W := 1) hZ (own_hln hw) (kI := 4) (hw _ (List.mem_of_getElem? (i := 7) rfl)) sE113 sV113 sC113 sK113 sc113 sb113 (O2.ext Xo111.2) P5 sl113 (by decide) (by decide)) q112a q112c (g := (mkF m 21 #[.val (.ref oa), .val (.int (1 : Int32)), .val (.int (2 : Int32))] [(.ref oa), (.int (2 : Int32))])) rfl (by rw [hml]; rfl) (Steps.refl _) (argsL := []) (rest := [(.int (2 : Int32))]) (lenOf own_pd17 rfl) rfl (by show 2 * 0 + _ ≤ _; exact Nat.le_of_eq rfl) (hb hby own_d_prog_28_m3_21) (fun _ _ => ⟨rfl, e111, (by decide : 0 + 0 ≤ _), (by decide : 0 + 0 ≤ _)⟩)
      dsimp only [Pt.U, Pt.locs, Pt.cells, Pt.slots] at X112 l112 y112 z112 st112 hQ112
      subst l112 y112 z112
      obtain ⟨hv112, hL112, hh112⟩ := hQ112
      subst hL112
      have N112 := Fr.app N111 (Fr.nil n0)
      subst hv112
      refine own_to (V := T112.setTop (mkF m 24 #[.val (.ref oa), .val (.int (1 : Int32)), .val (.int (2 : Int32))] [(.int (3 : Int32)), (.int (2 : Int32))])) ?_ (fun t k => st112.trans k)
      refine own_to (V := T112.setTop (mkF m 29 #[.val (.ref oa), .val (.int (1 : Int32)), .val (.int (2 : Int32))] [(.int (2 : Int32)), (.ref oa)])) ?_ fun t k => (by
        refine XS.icmpNo X112.here hx rfl (hb hby own_d_prog_28_m3_24) rfl (tlt ((by decide) : (2 : Int32) < (3 : Int32))).2.1 ?_
        refine XS.aloadN X112.here hx rfl (hb hby own_d_prog_28_m3_27) rfl rfl ?_
        refine XS.iloadN X112.here hx rfl (hb hby own_d_prog_28_m3_28) rfl ?_
        exact k)
      obtain ⟨cq115, kq115, q115a, q115b, q115c⟩ := isOf hZ hh112 F114.1
      obtain ⟨_, _, ⟨T115, L115, k115, n115⟩, -, X115, ⟨Lc115, hQ115, l115, y115, z115⟩, st115⟩ := X112.virtualBack hx (y := (⟨"java/lang/String", "charAt", "(I)C"⟩ : MethodName)) (z := (⟨"java/lang/String", "charAt", "(I)C"⟩ : MethodName)) hown (mvT hZ (hw _ (List.mem_of_getElem? (i := 91) rfl))) (mvT hZ (hw _ (List.mem_of_getElem? (i := 92) rfl))) (notFace_of_selects (args := #[]) (mvT hZ (hw _ (List.mem_of_getElem? (i := 94) rfl)))) (mvT hZ (hw _ (List.mem_of_getElem? (i := 94) rfl))) (mvT hZ (hw _ (List.mem_of_getElem? (i := 93) rfl))) (by decide) (backOf (W := 0) (own_rmchw l Z a0 hw hst [] oa ou ([w0, w1, w2] : List Int32) ([w0, w1] : List Int32) w2 ([] : List Int32) h111 n0 Xo111 F114 rfl hr2 (Nat.le_of_ble_eq_true rfl)) hZ (hw _ (List.mem_of_getElem? (i := 95) rfl)) (hw _ (List.mem_of_getElem? (i := 8) rfl)) (by decide) (by decide)) q115a q115c (g := (mkF m 29 #[.val (.ref oa), .val (.int (1 : Int32)), .val (.int (2 : Int32))] [(.int (2 : Int32)), (.ref oa)])) rfl (by rw [hml]; rfl) (Steps.refl _) (argsL := [(.int (2 : Int32))]) (rest := []) (lenOf own_pd18 rfl) rfl (by show 2 * 0 + _ ≤ _; exact Nat.le_of_eq rfl) (hb hby own_d_prog_28_m3_29) (fun _ _ => ⟨rfl, hh112, (by decide : 0 + 0 ≤ _), (by decide : 0 + 0 ≤ _)⟩)
      dsimp only [Pt.U, Pt.locs, Pt.cells, Pt.slots] at X115 l115 y115 z115 st115 hQ115
      subst l115 y115 z115
      obtain ⟨hv115, N115q, K115⟩ := hQ115
      subst hv115
      obtain ⟨h115, e115⟩ : ∃ z, T115.heap = z := ⟨_, rfl⟩
      rw [e115] at K115
      have Xo115 : Old Z n0 h115 := Xo111.keep K115 all0
      have KK115 : Keep h0 h115 [] := KK111.trans K115 all0
      have N115 := Fr.app N112 N115q
      refine own_to (V := T115.setTop (mkF m 32 #[.val (.ref oa), .val (.int (1 : Int32)), .val (.int (2 : Int32))] [(.int w2)])) ?_ (fun t k => st115.trans k)
      obtain ⟨_, _, ⟨T116, L116, k116, n116⟩, -, X116, ⟨Lc116, hQ116, l116, y116, z116⟩, st116⟩ := Jvm.LawKit.callS X115 hx (y := (⟨"java/lang/Character", "isISOControl", "(C)Z"⟩ : MethodName)) hown (mvT hZ (hw _ (List.mem_of_getElem? (i := 118) rfl))) (mvT hZ (hw _ (List.mem_of_getElem? (i := 119) rfl))) (mvT hZ (hw _ (List.mem_of_getElem? (i := 120) rfl))) (mvT hZ (hw _ (List.mem_of_getElem? (i := 121) rfl))) (by decide) (backOf (W := 0) (own_rmisoc l Z a0 hw hst [] w2 h115 n0 Xo115 hr2) hZ (hw _ (List.mem_of_getElem? (i := 121) rfl)) (hw _ (List.mem_of_getElem? (i := 120) rfl)) (by decide) (by decide)) (g := (mkF m 32 #[.val (.ref oa), .val (.int (1 : Int32)), .val (.int (2 : Int32))] [(.int w2)])) rfl (by rw [hml]; rfl) (argsL := [(.int w2)]) (rest := []) (lenOf own_pd13 rfl) rfl (by show 2 * 0 + _ ≤ _; exact Nat.le_of_eq rfl) (hb hby own_d_prog_28_m3_32) (fun _ _ => ⟨rfl, e115, (by decide : 0 + 0 ≤ _), (by decide : 0 + 0 ≤ _)⟩)
      dsimp only [Pt.U, Pt.locs, Pt.cells, Pt.slots] at X116 l116 y116 z116 st116 hQ116
      subst l116 y116 z116
      rcases hQ116 with ⟨hv116, N116q, K116, g116_0⟩ | ⟨hv116, N116q, K116, g116_0⟩
      · skip
        subst hv116
        obtain ⟨h116, e116⟩ : ∃ z, T116.heap = z := ⟨_, rfl⟩
        rw [e116] at K116
        have Xo116 : Old Z n0 h116 := Xo115.keep K116 all0
        have KK116 : Keep h0 h116 [] := KK115.trans K116 all0
        have N116 := Fr.app N115 N116q
        refine own_to (V := T116.setTop (mkF m 35 #[.val (.ref oa), .val (.int (1 : Int32)), .val (.int (2 : Int32))] [(.int (1 : Int32))])) ?_ st116
        refine own_to (V := T116.setTop (mkF m 51 #[.val (.ref oa), .val (.int (0 : Int32)), .val (.int (3 : Int32))] [(.int (0 : Int32))])) ?_ fun t k => (by
          refine XS.ifYes X116.here hx rfl (pc0 := 35) (pc' := 42) rfl (hb hby own_d_prog_28_m3_35) rfl ((if0 _ _).trans (feq ((by decide) : ¬ ((1 : Int32) = (0 : Int32)))).2) (by decide) (by decide) ?_
          refine XS.iconst X116.here hx rfl (hb hby own_d_prog_28_m3_42) ?_
          refine XS.istoreN X116.here hx rfl (hb hby own_d_prog_28_m3_43) rfl (l' := #[.val (.ref oa), .val (.int (0 : Int32)), .val (.int (2 : Int32))]) rfl ?_
          refine XS.iinc X116.here hx rfl (hb hby own_d_prog_28_m3_44) rfl (l' := #[.val (.ref oa), .val (.int (0 : Int32)), .val (.int (3 : Int32))]) rfl ?_
          refine XS.goto X116.here hx rfl (pc0 := 47) (pc' := 15) rfl (hb hby own_d_prog_28_m3_47) (by decide) (by decide) ?_
          refine XS.iloadN X116.here hx rfl (hb hby own_d_prog_28_m3_15) rfl ?_
          refine XS.ifYes X116.here hx rfl (pc0 := 16) (pc' := 50) rfl (hb hby own_d_prog_28_m3_16) rfl ((if0 _ _).trans (teq ((by decide) : (0 : Int32) = (0 : Int32))).1) (by decide) (by decide) ?_
          refine XS.iloadN X116.here hx rfl (hb hby own_d_prog_28_m3_50) rfl ?_
          exact k)
        exact own_retN X116 hx (t := .boolean) (w := (0 : Int32)) hret (by decide) rfl hlk (hb hby own_d_prog_28_m3_51) (by rw [e116]; exact (Or.inr (⟨rfl, N116, KK116, (Or.inr (Or.inr (g116_0)))⟩))) (by decide) (by decide)
      · skip
        subst hv116
        obtain ⟨h116, e116⟩ : ∃ z, T116.heap = z := ⟨_, rfl⟩
        rw [e116] at K116
        have Xo116 : Old Z n0 h116 := Xo115.keep K116 all0
        have KK116 : Keep h0 h116 [] := KK115.trans K116 all0
        have N116 := Fr.app N115 N116q
        refine own_to (V := T116.setTop (mkF m 35 #[.val (.ref oa), .val (.int (1 : Int32)), .val (.int (2 : Int32))] [(.int (0 : Int32))])) ?_ st116
        refine own_to (V := T116.setTop (mkF m 21 #[.val (.ref oa), .val (.int (1 : Int32)), .val (.int (3 : Int32))] [(.ref oa), (.int (3 : Int32))])) ?_ fun t k => (by
          refine XS.ifNo X116.here hx rfl (hb hby own_d_prog_28_m3_35) rfl ((if0 _ _).trans (teq ((by decide) : (0 : Int32) = (0 : Int32))).2) ?_
          refine XS.iconst X116.here hx rfl (hb hby own_d_prog_28_m3_38) ?_
          refine XS.goto X116.here hx rfl (pc0 := 39) (pc' := 43) rfl (hb hby own_d_prog_28_m3_39) (by decide) (by decide) ?_
          refine XS.istoreN X116.here hx rfl (hb hby own_d_prog_28_m3_43) rfl (l' := #[.val (.ref oa), .val (.int (1 : Int32)), .val (.int (2 : Int32))]) rfl ?_
          refine XS.iinc X116.here hx rfl (hb hby own_d_prog_28_m3_44) rfl (l' := #[.val (.ref oa), .val (.int (1 : Int32)), .val (.int (3 : Int32))]) rfl ?_
          refine XS.goto X116.here hx rfl (pc0 := 47) (pc' := 15) rfl (hb hby own_d_prog_28_m3_47) (by decide) (by decide) ?_
          refine XS.iloadN X116.here hx rfl (hb hby own_d_prog_28_m3_15) rfl ?_
          refine XS.ifNo X116.here hx rfl (hb hby own_d_prog_28_m3_16) rfl ((if0 _ _).trans (feq ((by decide) : ¬ ((1 : Int32) = (0 : Int32)))).1) ?_
          refine XS.iloadN X116.here hx rfl (hb hby own_d_prog_28_m3_19) rfl ?_
          refine XS.aloadN X116.here hx rfl (hb hby own_d_prog_28_m3_20) rfl rfl ?_
          exact k)
        have F119 : own_Str Z h116 oa ou ([w0, w1, w2] : List Int32) := ((F114.keep K115 List.not_mem_nil List.not_mem_nil).keep K116 List.not_mem_nil List.not_mem_nil)
        obtain ⟨sE118, sd118, sN118, sk118, sv118, sV118, sC118, sK118, sc118, sb118, sl118⟩ := id F119
        obtain ⟨cq117, kq117, q117a, q117b, q117c⟩ := isOf hZ e116 F119.1
        obtain ⟨_, _, ⟨T117, L117, k117, n117⟩, -, X117, ⟨Lc117, hQ117, l117, y117, z117⟩, st117⟩ := X116.virtualBack hx (y := (⟨"java/lang/String", "length", "()I"⟩ : MethodName)) (z := (⟨"java/lang/String", "length", "()I"⟩ : MethodName)) hown (mvT hZ (hw _ (List.mem_of_getElem? (i := 81) rfl))) (mvT hZ (hw _ (List.mem_of_getElem? (i := 82) rfl))) (notFace_of_selects (args := #[]) (mvT hZ (hw _ (List.mem_of_getElem? (i := 84) rfl)))) (mvT hZ (hw _ (List.mem_of_getElem? (i := 84) rfl))) (mvT hZ (hw _ (List.mem_of_getElem? (i := 83) rfl))) (by decide) (StrChars.Road.lenW (W := 1) hZ (own_hln hw) (kI := 4) (hw _ (List.mem_of_getElem? (i := 7) rfl)) sE118 sV118 sC118 sK118 sc118 sb118 (O2.ext Xo116.2) P5 sl118 (by decide) (by decide)) q117a q117c (g := (mkF m 21 #[.val (.ref oa), .val (.int (1 : Int32)), .val (.int (3 : Int32))] [(.ref oa), (.int (3 : Int32))])) rfl (by rw [hml]; rfl) (Steps.refl _) (argsL := []) (rest := [(.int (3 : Int32))]) (lenOf own_pd17 rfl) rfl (by show 2 * 0 + _ ≤ _; exact Nat.le_of_eq rfl) (hb hby own_d_prog_28_m3_21) (fun _ _ => ⟨rfl, e116, (by decide : 0 + 0 ≤ _), (by decide : 0 + 0 ≤ _)⟩)
        dsimp only [Pt.U, Pt.locs, Pt.cells, Pt.slots] at X117 l117 y117 z117 st117 hQ117
        subst l117 y117 z117
        obtain ⟨hv117, hL117, hh117⟩ := hQ117
        subst hL117
        have N117 := Fr.app N116 (Fr.nil n0)
        subst hv117
        refine own_to (V := T117.setTop (mkF m 24 #[.val (.ref oa), .val (.int (1 : Int32)), .val (.int (3 : Int32))] [(.int (3 : Int32)), (.int (3 : Int32))])) ?_ (fun t k => st117.trans k)
        refine own_to (V := T117.setTop (mkF m 51 #[.val (.ref oa), .val (.int (1 : Int32)), .val (.int (3 : Int32))] [(.int (1 : Int32))])) ?_ fun t k => (by
          refine XS.icmpYes X117.here hx rfl (pc0 := 24) (pc' := 50) rfl (hb hby own_d_prog_28_m3_24) rfl (flt ((by decide) : ¬ ((3 : Int32) < (3 : Int32)))).2.1 (by decide) (by decide) ?_
          refine XS.iloadN X117.here hx rfl (hb hby own_d_prog_28_m3_50) rfl ?_
          exact k)
        exact own_retN X117 hx (t := .boolean) (w := (1 : Int32)) hret (by decide) rfl hlk (hb hby own_d_prog_28_m3_51) (by rw [hh117]; exact (Or.inl ⟨rfl, N117, KK116, g106_0, g111_0, g116_0⟩)) (by decide) (by decide)
def own_Qchk1 (Z : State) (oa : Addr) (ou : Addr) (om : Addr) (w0 : Int32) (h0 : Heap) (n0 : Nat) (v : Option Value) (h : Heap) (L : List Loc) : Prop := (v = some (.ref oa) ∧ Fr n0 L ∧ Keep h0 h [])
theorem own_ef_chk1 (m : MethodId) (oa : Addr) (om : Addr)  : entryFrame m #[(.ref oa), (.ref om)] 2 = mkF m 0 #[.val (.ref oa), .val (.ref om)] [] := by first | (simp [entryFrame, mkF, argsToLocals, Value.category]; done) | rfl
set_option maxRecDepth 65536 in
set_option maxHeartbeats 40000000 in
theorem own_rmchk1 (l : Launch) (Z : State) (a0 : Array Value) (hw : ∀ d ∈ tables_1, d.before a0 Z = true) (hst : own_St Z) (ws : List Jvm.Cond) (oa : Addr) (ou : Addr) (om : Addr) (w0 : Int32) (h0 : Heap) (n0 : Nat) (X00 : Old Z n0 h0) (hS : own_Str Z h0 oa ou ([w0] : List Int32)) (hr0 : ¬ w0 < 0 ∧ ¬ (65535 : Int32) < w0) (hk0 : ¬ own_ctl w0) :
    MetFree l (⟨"com/example/turnwise/turnwise/input/Ids", "check", "(Ljava/lang/String;Ljava/lang/String;)Ljava/lang/String;"⟩ : MethodName) (head1 (Jvm.Cond.code (⟨"com/example/turnwise/turnwise/input/Ids", "check", "(Ljava/lang/String;Ljava/lang/String;)Ljava/lang/String;"⟩ : MethodName) prog_28_method_2_code 2 (Option.some (Jvm.ClassFile.FieldType.object "java/lang/String")) :: ws) ({ frames := 6, cells := 0, slots := 0, locals := 80 } : Room)) (fun a U => a = #[(.ref oa), (.ref om)] ∧ Z.Warmed39 U.vm ∧ U.heap = h0) (fun _ _ _ _ _ => True) (fun _ U o U' => ∃ v L, o = .returned v ∧ own_Qchk1 Z oa ou om w0 h0 n0 v U'.heap L ∧ FrameEnd U o U' L ({ frames := 6, cells := 0, slots := 0, locals := 80 } : Room).cells ({ frames := 6, cells := 0, slots := 0, locals := 80 } : Room).slots) := by
  refine MetFree.of_bodySF (plainFor_of_name own_pn6) hisR ?_
  intro p e s m args below meth c s₁ Bd hml0 hP hK
  obtain ⟨rfl, hZ, hh⟩ := hP
  have hx := Bd.exec
  have hby := Bd.bytes
  have hret := Bd.returns
  have hlk : meth.locks = false := BodyLoose.notSynchronized Bd
  have hml : c.maxLocals = 2 := hml0
  have hown : s.vm.findClass "com/example/turnwise/turnwise/input/Ids" = some m.cls := findClass_of_methodNamed Bd.named
  have hnm := (name_of_methodNamed Bd.named Bd.method).1
  have X0 : Stand p l e ({ frames := 6, cells := 0, slots := 0, locals := 80 } : Room) s m #[(.ref oa), (.ref om)] below meth c s₁ [] 0 0 := Stand.of_body Bd
  have e0 : s₁.heap = h0 := by rw [← hh, Bd.state]; rfl
  have N0 := Fr.nil n0
  have KK0 : Keep h0 h0 [] := Keep.refl h0 _
  refine own_start (own_Qchk1 Z oa ou om w0 h0 n0) ?_
  refine own_to (V := s₁.setTop (mkF m 0 #[.val (.ref oa), .val (.ref om)] [])) ?_ (fun t k => castTop (own_ef_chk1 m oa om ) k)
  obtain ⟨⟨G1, O2, P5⟩, ⟨G3, O4, rG3⟩, ⟨uO1, uO2, uO3⟩, -⟩ := id hst
  refine own_to (V := s₁.setTop (mkF m 1 #[.val (.ref oa), .val (.ref om)] [(.ref oa)])) ?_ fun t k => (by
    refine XS.aloadN X0.here hx rfl (hb hby own_d_prog_28_m2_0) rfl rfl ?_
    exact k)
  obtain ⟨_, _, ⟨T101, L101, k101, n101⟩, -, X101, ⟨Lc101, hQ101, l101, y101, z101⟩, st101⟩ := Jvm.LawKit.callS X0 hx (y := (⟨"com/example/turnwise/turnwise/input/Ids", "isId", "(Ljava/lang/String;)Z"⟩ : MethodName)) hown (mvT hZ (hw _ (List.mem_of_getElem? (i := 73) rfl))) (mvT hZ (hw _ (List.mem_of_getElem? (i := 74) rfl))) (mvT hZ (hw _ (List.mem_of_getElem? (i := 71) rfl))) (mvT hZ (hw _ (List.mem_of_getElem? (i := 75) rfl))) (by decide) (backOf (W := 0) (own_rmisid1 l Z a0 hw hst [] oa ou w0 h0 n0 X00 hS hr0) hZ (hw _ (List.mem_of_getElem? (i := 75) rfl)) (hw _ (List.mem_of_getElem? (i := 71) rfl)) (by decide) (by decide)) (g := (mkF m 1 #[.val (.ref oa), .val (.ref om)] [(.ref oa)])) rfl (by rw [hml]; rfl) (argsL := [(.ref oa)]) (rest := []) (lenOf own_pd19 rfl) rfl (by show 2 * 0 + _ ≤ _; exact Nat.le_of_eq rfl) (hb hby own_d_prog_28_m2_1) (fun _ _ => ⟨rfl, e0, (by decide : 0 + 0 ≤ _), (by decide : 0 + 0 ≤ _)⟩)
  dsimp only [Pt.U, Pt.locs, Pt.cells, Pt.slots] at X101 l101 y101 z101 st101 hQ101
  subst l101 y101 z101
  rcases hQ101 with ⟨hv101, N101q, K101, g101_0⟩ | ⟨hv101, N101q, K101, g101_0⟩
  · skip
    subst hv101
    obtain ⟨h101, e101⟩ : ∃ z, T101.heap = z := ⟨_, rfl⟩
    rw [e101] at K101
    have Xo101 : Old Z n0 h101 := X00.keep K101 all0
    have KK101 : Keep h0 h101 [] := KK0.trans K101 all0
    have N101 := Fr.app N0 N101q
    refine own_to (V := T101.setTop (mkF m 4 #[.val (.ref oa), .val (.ref om)] [(.int (1 : Int32))])) ?_ st101
    refine own_to (V := T101.setTop (mkF m 13 #[.val (.ref oa), .val (.ref om)] [(.ref oa)])) ?_ fun t k => (by
      refine XS.ifYes X101.here hx rfl (pc0 := 4) (pc' := 12) rfl (hb hby own_d_prog_28_m2_4) rfl ((if0 _ _).trans (feq ((by decide) : ¬ ((1 : Int32) = (0 : Int32)))).2) (by decide) (by decide) ?_
      refine XS.aloadN X101.here hx rfl (hb hby own_d_prog_28_m2_12) rfl rfl ?_
      exact k)
    exact own_retR X101 hx hret (by decide) rfl hlk (hb hby own_d_prog_28_m2_13) (by rw [e101]; exact (⟨rfl, N101, KK101⟩)) (by decide) (by decide)
  · skip
    subst hv101
    obtain ⟨h101, e101⟩ : ∃ z, T101.heap = z := ⟨_, rfl⟩
    rw [e101] at K101
    have Xo101 : Old Z n0 h101 := X00.keep K101 all0
    have KK101 : Keep h0 h101 [] := KK0.trans K101 all0
    have N101 := Fr.app N0 N101q
    exact absurd g101_0 hk0
def own_Qchk2 (Z : State) (oa : Addr) (ou : Addr) (om : Addr) (w0 : Int32) (w1 : Int32) (h0 : Heap) (n0 : Nat) (v : Option Value) (h : Heap) (L : List Loc) : Prop := (v = some (.ref oa) ∧ Fr n0 L ∧ Keep h0 h [])
theorem own_ef_chk2 (m : MethodId) (oa : Addr) (om : Addr)  : entryFrame m #[(.ref oa), (.ref om)] 2 = mkF m 0 #[.val (.ref oa), .val (.ref om)] [] := by first | (simp [entryFrame, mkF, argsToLocals, Value.category]; done) | rfl
set_option maxRecDepth 65536 in
set_option maxHeartbeats 40000000 in
theorem own_rmchk2 (l : Launch) (Z : State) (a0 : Array Value) (hw : ∀ d ∈ tables_1, d.before a0 Z = true) (hst : own_St Z) (ws : List Jvm.Cond) (oa : Addr) (ou : Addr) (om : Addr) (w0 : Int32) (w1 : Int32) (h0 : Heap) (n0 : Nat) (X00 : Old Z n0 h0) (hS : own_Str Z h0 oa ou ([w0, w1] : List Int32)) (hr0 : ¬ w0 < 0 ∧ ¬ (65535 : Int32) < w0) (hr1 : ¬ w1 < 0 ∧ ¬ (65535 : Int32) < w1) (hk0 : ¬ own_ctl w0) (hk1 : ¬ own_ctl w1) :
    MetFree l (⟨"com/example/turnwise/turnwise/input/Ids", "check", "(Ljava/lang/String;Ljava/lang/String;)Ljava/lang/String;"⟩ : MethodName) (head1 (Jvm.Cond.code (⟨"com/example/turnwise/turnwise/input/Ids", "check", "(Ljava/lang/String;Ljava/lang/String;)Ljava/lang/String;"⟩ : MethodName) prog_28_method_2_code 2 (Option.some (Jvm.ClassFile.FieldType.object "java/lang/String")) :: ws) ({ frames := 6, cells := 0, slots := 0, locals := 80 } : Room)) (fun a U => a = #[(.ref oa), (.ref om)] ∧ Z.Warmed39 U.vm ∧ U.heap = h0) (fun _ _ _ _ _ => True) (fun _ U o U' => ∃ v L, o = .returned v ∧ own_Qchk2 Z oa ou om w0 w1 h0 n0 v U'.heap L ∧ FrameEnd U o U' L ({ frames := 6, cells := 0, slots := 0, locals := 80 } : Room).cells ({ frames := 6, cells := 0, slots := 0, locals := 80 } : Room).slots) := by
  refine MetFree.of_bodySF (plainFor_of_name own_pn6) hisR ?_
  intro p e s m args below meth c s₁ Bd hml0 hP hK
  obtain ⟨rfl, hZ, hh⟩ := hP
  have hx := Bd.exec
  have hby := Bd.bytes
  have hret := Bd.returns
  have hlk : meth.locks = false := BodyLoose.notSynchronized Bd
  have hml : c.maxLocals = 2 := hml0
  have hown : s.vm.findClass "com/example/turnwise/turnwise/input/Ids" = some m.cls := findClass_of_methodNamed Bd.named
  have hnm := (name_of_methodNamed Bd.named Bd.method).1
  have X0 : Stand p l e ({ frames := 6, cells := 0, slots := 0, locals := 80 } : Room) s m #[(.ref oa), (.ref om)] below meth c s₁ [] 0 0 := Stand.of_body Bd
  have e0 : s₁.heap = h0 := by rw [← hh, Bd.state]; rfl
  have N0 := Fr.nil n0
  have KK0 : Keep h0 h0 [] := Keep.refl h0 _
  refine own_start (own_Qchk2 Z oa ou om w0 w1 h0 n0) ?_
  refine own_to (V := s₁.setTop (mkF m 0 #[.val (.ref oa), .val (.ref om)] [])) ?_ (fun t k => castTop (own_ef_chk2 m oa om ) k)
  obtain ⟨⟨G1, O2, P5⟩, ⟨G3, O4, rG3⟩, ⟨uO1, uO2, uO3⟩, -⟩ := id hst
  refine own_to (V := s₁.setTop (mkF m 1 #[.val (.ref oa), .val (.ref om)] [(.ref oa)])) ?_ fun t k => (by
    refine XS.aloadN X0.here hx rfl (hb hby own_d_prog_28_m2_0) rfl rfl ?_
    exact k)
  obtain ⟨_, _, ⟨T101, L101, k101, n101⟩, -, X101, ⟨Lc101, hQ101, l101, y101, z101⟩, st101⟩ := Jvm.LawKit.callS X0 hx (y := (⟨"com/example/turnwise/turnwise/input/Ids", "isId", "(Ljava/lang/String;)Z"⟩ : MethodName)) hown (mvT hZ (hw _ (List.mem_of_getElem? (i := 73) rfl))) (mvT hZ (hw _ (List.mem_of_getElem? (i := 74) rfl))) (mvT hZ (hw _ (List.mem_of_getElem? (i := 71) rfl))) (mvT hZ (hw _ (List.mem_of_getElem? (i := 75) rfl))) (by decide) (backOf (W := 0) (own_rmisid2 l Z a0 hw hst [] oa ou w0 w1 h0 n0 X00 hS hr0 hr1) hZ (hw _ (List.mem_of_getElem? (i := 75) rfl)) (hw _ (List.mem_of_getElem? (i := 71) rfl)) (by decide) (by decide)) (g := (mkF m 1 #[.val (.ref oa), .val (.ref om)] [(.ref oa)])) rfl (by rw [hml]; rfl) (argsL := [(.ref oa)]) (rest := []) (lenOf own_pd19 rfl) rfl (by show 2 * 0 + _ ≤ _; exact Nat.le_of_eq rfl) (hb hby own_d_prog_28_m2_1) (fun _ _ => ⟨rfl, e0, (by decide : 0 + 0 ≤ _), (by decide : 0 + 0 ≤ _)⟩)
  dsimp only [Pt.U, Pt.locs, Pt.cells, Pt.slots] at X101 l101 y101 z101 st101 hQ101
  subst l101 y101 z101
  rcases hQ101 with ⟨hv101, N101q, K101, g101_0, g101_1⟩ | ⟨hv101, N101q, K101, g101_0⟩
  · skip
    subst hv101
    obtain ⟨h101, e101⟩ : ∃ z, T101.heap = z := ⟨_, rfl⟩
    rw [e101] at K101
    have Xo101 : Old Z n0 h101 := X00.keep K101 all0
    have KK101 : Keep h0 h101 [] := KK0.trans K101 all0
    have N101 := Fr.app N0 N101q
    refine own_to (V := T101.setTop (mkF m 4 #[.val (.ref oa), .val (.ref om)] [(.int (1 : Int32))])) ?_ st101
    refine own_to (V := T101.setTop (mkF m 13 #[.val (.ref oa), .val (.ref om)] [(.ref oa)])) ?_ fun t k => (by
      refine XS.ifYes X101.here hx rfl (pc0 := 4) (pc' := 12) rfl (hb hby own_d_prog_28_m2_4) rfl ((if0 _ _).trans (feq ((by decide) : ¬ ((1 : Int32) = (0 : Int32)))).2) (by decide) (by decide) ?_
      refine XS.aloadN X101.here hx rfl (hb hby own_d_prog_28_m2_12) rfl rfl ?_
      exact k)
    exact own_retR X101 hx hret (by decide) rfl hlk (hb hby own_d_prog_28_m2_13) (by rw [e101]; exact (⟨rfl, N101, KK101⟩)) (by decide) (by decide)
  · skip
    subst hv101
    obtain ⟨h101, e101⟩ : ∃ z, T101.heap = z := ⟨_, rfl⟩
    rw [e101] at K101
    have Xo101 : Old Z n0 h101 := X00.keep K101 all0
    have KK101 : Keep h0 h101 [] := KK0.trans K101 all0
    have N101 := Fr.app N0 N101q
    exact absurd g101_0 (by simp [hk0, hk1])
def own_Qchk3 (Z : State) (oa : Addr) (ou : Addr) (om : Addr) (w0 : Int32) (w1 : Int32) (w2 : Int32) (h0 : Heap) (n0 : Nat) (v : Option Value) (h : Heap) (L : List Loc) : Prop := (v = some (.ref oa) ∧ Fr n0 L ∧ Keep h0 h [])
theorem own_ef_chk3 (m : MethodId) (oa : Addr) (om : Addr)  : entryFrame m #[(.ref oa), (.ref om)] 2 = mkF m 0 #[.val (.ref oa), .val (.ref om)] [] := by first | (simp [entryFrame, mkF, argsToLocals, Value.category]; done) | rfl
set_option maxRecDepth 65536 in
set_option maxHeartbeats 40000000 in
theorem own_rmchk3 (l : Launch) (Z : State) (a0 : Array Value) (hw : ∀ d ∈ tables_1, d.before a0 Z = true) (hst : own_St Z) (ws : List Jvm.Cond) (oa : Addr) (ou : Addr) (om : Addr) (w0 : Int32) (w1 : Int32) (w2 : Int32) (h0 : Heap) (n0 : Nat) (X00 : Old Z n0 h0) (hS : own_Str Z h0 oa ou ([w0, w1, w2] : List Int32)) (hr0 : ¬ w0 < 0 ∧ ¬ (65535 : Int32) < w0) (hr1 : ¬ w1 < 0 ∧ ¬ (65535 : Int32) < w1) (hr2 : ¬ w2 < 0 ∧ ¬ (65535 : Int32) < w2) (hk0 : ¬ own_ctl w0) (hk1 : ¬ own_ctl w1) (hk2 : ¬ own_ctl w2) :
    MetFree l (⟨"com/example/turnwise/turnwise/input/Ids", "check", "(Ljava/lang/String;Ljava/lang/String;)Ljava/lang/String;"⟩ : MethodName) (head1 (Jvm.Cond.code (⟨"com/example/turnwise/turnwise/input/Ids", "check", "(Ljava/lang/String;Ljava/lang/String;)Ljava/lang/String;"⟩ : MethodName) prog_28_method_2_code 2 (Option.some (Jvm.ClassFile.FieldType.object "java/lang/String")) :: ws) ({ frames := 6, cells := 0, slots := 0, locals := 80 } : Room)) (fun a U => a = #[(.ref oa), (.ref om)] ∧ Z.Warmed39 U.vm ∧ U.heap = h0) (fun _ _ _ _ _ => True) (fun _ U o U' => ∃ v L, o = .returned v ∧ own_Qchk3 Z oa ou om w0 w1 w2 h0 n0 v U'.heap L ∧ FrameEnd U o U' L ({ frames := 6, cells := 0, slots := 0, locals := 80 } : Room).cells ({ frames := 6, cells := 0, slots := 0, locals := 80 } : Room).slots) := by
  refine MetFree.of_bodySF (plainFor_of_name own_pn6) hisR ?_
  intro p e s m args below meth c s₁ Bd hml0 hP hK
  obtain ⟨rfl, hZ, hh⟩ := hP
  have hx := Bd.exec
  have hby := Bd.bytes
  have hret := Bd.returns
  have hlk : meth.locks = false := BodyLoose.notSynchronized Bd
  have hml : c.maxLocals = 2 := hml0
  have hown : s.vm.findClass "com/example/turnwise/turnwise/input/Ids" = some m.cls := findClass_of_methodNamed Bd.named
  have hnm := (name_of_methodNamed Bd.named Bd.method).1
  have X0 : Stand p l e ({ frames := 6, cells := 0, slots := 0, locals := 80 } : Room) s m #[(.ref oa), (.ref om)] below meth c s₁ [] 0 0 := Stand.of_body Bd
  have e0 : s₁.heap = h0 := by rw [← hh, Bd.state]; rfl
  have N0 := Fr.nil n0
  have KK0 : Keep h0 h0 [] := Keep.refl h0 _
  refine own_start (own_Qchk3 Z oa ou om w0 w1 w2 h0 n0) ?_
  refine own_to (V := s₁.setTop (mkF m 0 #[.val (.ref oa), .val (.ref om)] [])) ?_ (fun t k => castTop (own_ef_chk3 m oa om ) k)
  obtain ⟨⟨G1, O2, P5⟩, ⟨G3, O4, rG3⟩, ⟨uO1, uO2, uO3⟩, -⟩ := id hst
  refine own_to (V := s₁.setTop (mkF m 1 #[.val (.ref oa), .val (.ref om)] [(.ref oa)])) ?_ fun t k => (by
    refine XS.aloadN X0.here hx rfl (hb hby own_d_prog_28_m2_0) rfl rfl ?_
    exact k)
  obtain ⟨_, _, ⟨T101, L101, k101, n101⟩, -, X101, ⟨Lc101, hQ101, l101, y101, z101⟩, st101⟩ := Jvm.LawKit.callS X0 hx (y := (⟨"com/example/turnwise/turnwise/input/Ids", "isId", "(Ljava/lang/String;)Z"⟩ : MethodName)) hown (mvT hZ (hw _ (List.mem_of_getElem? (i := 73) rfl))) (mvT hZ (hw _ (List.mem_of_getElem? (i := 74) rfl))) (mvT hZ (hw _ (List.mem_of_getElem? (i := 71) rfl))) (mvT hZ (hw _ (List.mem_of_getElem? (i := 75) rfl))) (by decide) (backOf (W := 0) (own_rmisid3 l Z a0 hw hst [] oa ou w0 w1 w2 h0 n0 X00 hS hr0 hr1 hr2) hZ (hw _ (List.mem_of_getElem? (i := 75) rfl)) (hw _ (List.mem_of_getElem? (i := 71) rfl)) (by decide) (by decide)) (g := (mkF m 1 #[.val (.ref oa), .val (.ref om)] [(.ref oa)])) rfl (by rw [hml]; rfl) (argsL := [(.ref oa)]) (rest := []) (lenOf own_pd19 rfl) rfl (by show 2 * 0 + _ ≤ _; exact Nat.le_of_eq rfl) (hb hby own_d_prog_28_m2_1) (fun _ _ => ⟨rfl, e0, (by decide : 0 + 0 ≤ _), (by decide : 0 + 0 ≤ _)⟩)
  dsimp only [Pt.U, Pt.locs, Pt.cells, Pt.slots] at X101 l101 y101 z101 st101 hQ101
  subst l101 y101 z101
  rcases hQ101 with ⟨hv101, N101q, K101, g101_0, g101_1, g101_2⟩ | ⟨hv101, N101q, K101, g101_0⟩
  · skip
    subst hv101
    obtain ⟨h101, e101⟩ : ∃ z, T101.heap = z := ⟨_, rfl⟩
    rw [e101] at K101
    have Xo101 : Old Z n0 h101 := X00.keep K101 all0
    have KK101 : Keep h0 h101 [] := KK0.trans K101 all0
    have N101 := Fr.app N0 N101q
    refine own_to (V := T101.setTop (mkF m 4 #[.val (.ref oa), .val (.ref om)] [(.int (1 : Int32))])) ?_ st101
    refine own_to (V := T101.setTop (mkF m 13 #[.val (.ref oa), .val (.ref om)] [(.ref oa)])) ?_ fun t k => (by
      refine XS.ifYes X101.here hx rfl (pc0 := 4) (pc' := 12) rfl (hb hby own_d_prog_28_m2_4) rfl ((if0 _ _).trans (feq ((by decide) : ¬ ((1 : Int32) = (0 : Int32)))).2) (by decide) (by decide) ?_
      refine XS.aloadN X101.here hx rfl (hb hby own_d_prog_28_m2_12) rfl rfl ?_
      exact k)
    exact own_retR X101 hx hret (by decide) rfl hlk (hb hby own_d_prog_28_m2_13) (by rw [e101]; exact (⟨rfl, N101, KK101⟩)) (by decide) (by decide)
  · skip
    subst hv101
    obtain ⟨h101, e101⟩ : ∃ z, T101.heap = z := ⟨_, rfl⟩
    rw [e101] at K101
    have Xo101 : Old Z n0 h101 := X00.keep K101 all0
    have KK101 : Keep h0 h101 [] := KK0.trans K101 all0
    have N101 := Fr.app N0 N101q
    exact absurd g101_0 (by simp [hk0, hk1, hk2])
def own_Qlaw (Z : State) (qa : Int32) (qb : Int32) (qc : Int32) (qn : Int32) (qw : Int32) (h0 : Heap) (n0 : Nat) (v : Option Value) (h : Heap) (L : List Loc) : Prop := (v = some (.int (1 : Int32)) ∧ Fr n0 L ∧ Keep h0 h [])
theorem own_ef_law (m : MethodId) (qa : Int32) (qb : Int32) (qc : Int32) (qn : Int32) (qw : Int32)  : entryFrame m #[(.int qa), (.int qb), (.int qc), (.int qn), (.int qw)] maxLocals = mkF m 0 #[.val (.int qa), .val (.int qb), .val (.int qc), .val (.int qn), .val (.int qw), .unset, .unset, .unset, .unset, .unset, .unset, .unset] [] := by first | (simp [entryFrame, mkF, argsToLocals, Value.category, maxLocals]; done) | rfl
set_option maxRecDepth 65536 in
set_option maxHeartbeats 40000000 in
theorem own_rmlaw (l : Launch) (Z : State) (a0 : Array Value) (hw : ∀ d ∈ tables_1, d.before a0 Z = true) (hst : own_St Z) (ws : List Jvm.Cond) (qa : Int32) (qb : Int32) (qc : Int32) (qn : Int32) (qw : Int32) (h0 : Heap) (n0 : Nat) (X00 : Old Z n0 h0)  :
    MetFree l x (head1 (Jvm.Cond.code x code maxLocals ret :: ws) room_1) (fun a U => a = #[(.int qa), (.int qb), (.int qc), (.int qn), (.int qw)] ∧ Z.Warmed39 U.vm ∧ U.heap = h0) (fun _ _ _ _ _ => True) (fun _ U o U' => ∃ v L, o = .returned v ∧ own_Qlaw Z qa qb qc qn qw h0 n0 v U'.heap L ∧ FrameEnd U o U' L room_1.cells room_1.slots) := by
  refine MetFree.of_bodySF (plainFor_of_name own_pn4) hisR ?_
  intro p e s m args below meth c s₁ Bd hml0 hP hK
  obtain ⟨rfl, hZ, hh⟩ := hP
  have hx := Bd.exec
  have hby := Bd.bytes
  have hret := Bd.returns
  have hlk : meth.locks = false := BodyLoose.notSynchronized Bd
  have hml : c.maxLocals = 12 := hml0
  have hown : s.vm.findClass "com/example/turnwise/turnwise/input/IdsCheckPinLaw" = some m.cls := findClass_of_methodNamed Bd.named
  have hnm := (name_of_methodNamed Bd.named Bd.method).1
  have X0 : Stand p l e room_1 s m #[(.int qa), (.int qb), (.int qc), (.int qn), (.int qw)] below meth c s₁ [] 0 0 := Stand.of_body Bd
  have e0 : s₁.heap = h0 := by rw [← hh, Bd.state]; rfl
  have N0 := Fr.nil n0
  have KK0 : Keep h0 h0 [] := Keep.refl h0 _
  refine own_start (own_Qlaw Z qa qb qc qn qw h0 n0) ?_
  refine own_to (V := s₁.setTop (mkF m 0 #[.val (.int qa), .val (.int qb), .val (.int qc), .val (.int qn), .val (.int qw), .unset, .unset, .unset, .unset, .unset, .unset, .unset] [])) ?_ (fun t k => castTop (own_ef_law m qa qb qc qn qw ) k)
  obtain ⟨⟨G1, O2, P5⟩, ⟨G3, O4, rG3⟩, ⟨uO1, uO2, uO3⟩, -⟩ := id hst
  refine own_to (V := s₁.setTop (mkF m 2 #[.val (.int qa), .val (.int qb), .val (.int qc), .val (.int qn), .val (.int qw), .unset, .unset, .unset, .unset, .unset, .unset, .unset] [(.int qn), (.int (1 : Int32))])) ?_ fun t k => (by
    refine XS.iconst X0.here hx rfl (hb hby at_0) ?_
    refine XS.iloadN X0.here hx rfl (hb hby at_1) rfl ?_
    exact k)
  refine own_to (V := s₁.setTop (mkF m 4 #[.val (.int qa), .val (.int qb), .val (.int qc), .val (.int qn), .val (.int qw), .unset, .unset, .unset, .unset, .unset, .unset, .unset] [(.int (2147483647 : Int32)), (.int qn), (.int (1 : Int32))])) ?_ (fun t k => X0.ldcInt hx hown (mvT hZ (hw _ (List.mem_of_getElem? (i := 0) rfl))) (g := (mkF m 2 #[.val (.int qa), .val (.int qb), .val (.int qc), .val (.int qn), .val (.int qw), .unset, .unset, .unset, .unset, .unset, .unset, .unset] [(.int qn), (.int (1 : Int32))])) rfl (hb hby at_2) t k)
  obtain ⟨x101, hx101⟩ : ∃ z : Int32, z = ((1 : Int32) + ((qn &&& (2147483647 : Int32)) % (3 : Int32))) := ⟨_, rfl⟩
  refine own_to (V := s₁.setTop (mkF m 10 #[.val (.int qa), .val (.int qb), .val (.int qc), .val (.int qn), .val (.int qw), .val (.int x101), .unset, .unset, .unset, .unset, .unset, .unset] [])) ?_ fun t k => (by
    first | rw [hx101] at k | skip
    refine XS.iand X0.here hx rfl (hb hby at_4) rfl ?_
    refine XS.iconst X0.here hx rfl (hb hby at_5) ?_
    refine own_irem X0.here hx rfl (hb hby at_6) rfl (by decide) ?_
    refine XS.iadd X0.here hx rfl (hb hby at_7) rfl ?_
    refine XS.istore X0.here hx rfl (hb hby at_8) rfl (l' := #[.val (.int qa), .val (.int qb), .val (.int qc), .val (.int qn), .val (.int qw), .val (.int ((1 : Int32) + ((qn &&& (2147483647 : Int32)) % (3 : Int32)))), .unset, .unset, .unset, .unset, .unset, .unset]) rfl ?_
    exact k)
  rcases (show own_in3 x101 by rw [hx101]; exact own_rem3 _) with hcv102_0 | hcv103_1 | hcv104_2
  · skip
    subst hcv102_0
    refine own_to (V := s₁.setTop (mkF m 11 #[.val (.int qa), .val (.int qb), .val (.int qc), .val (.int qn), .val (.int qw), .val (.int (1 : Int32)), .unset, .unset, .unset, .unset, .unset, .unset] [(.int qa)])) ?_ fun t k => (by
      refine XS.iloadN X0.here hx rfl (hb hby at_10) rfl ?_
      exact k)
    refine own_to (V := s₁.setTop (mkF m 13 #[.val (.int qa), .val (.int qb), .val (.int qc), .val (.int qn), .val (.int qw), .val (.int (1 : Int32)), .unset, .unset, .unset, .unset, .unset, .unset] [(.int (65535 : Int32)), (.int qa)])) ?_ (fun t k => X0.ldcInt hx hown (mvT hZ (hw _ (List.mem_of_getElem? (i := 1) rfl))) (g := (mkF m 11 #[.val (.int qa), .val (.int qb), .val (.int qc), .val (.int qn), .val (.int qw), .val (.int (1 : Int32)), .unset, .unset, .unset, .unset, .unset, .unset] [(.int qa)])) rfl (hb hby at_11) t k)
    obtain ⟨c105, hc105⟩ : ∃ z : Int32, z = ((qa &&& (65535 : Int32)).toUInt32.toUInt16.toUInt32.toInt32) := ⟨_, rfl⟩
    have rc_c105 : ¬ c105 < 0 ∧ ¬ (65535 : Int32) < c105 := by rw [hc105]; exact own_i2c_rng _
    refine own_to (V := s₁.setTop (mkF m 15 #[.val (.int qa), .val (.int qb), .val (.int qc), .val (.int qn), .val (.int qw), .val (.int (1 : Int32)), .unset, .unset, .unset, .unset, .unset, .unset] [(.int c105)])) ?_ fun t k => (by
      first | rw [hc105] at k | skip
      refine XS.iand X0.here hx rfl (hb hby at_13) rfl ?_
      refine XS.i2c X0.here hx rfl (hb hby at_14) rfl ?_
      exact k)
    refine own_to (V := s₁.setTop (mkF m 18 #[.val (.int qa), .val (.int qb), .val (.int qc), .val (.int qn), .val (.int qw), .val (.int (1 : Int32)), .val (.int c105), .unset, .unset, .unset, .unset, .unset] [(.int qb)])) ?_ fun t k => (by
      refine XS.istore X0.here hx rfl (hb hby at_15) rfl (l' := #[.val (.int qa), .val (.int qb), .val (.int qc), .val (.int qn), .val (.int qw), .val (.int (1 : Int32)), .val (.int c105), .unset, .unset, .unset, .unset, .unset]) rfl ?_
      refine XS.iloadN X0.here hx rfl (hb hby at_17) rfl ?_
      exact k)
    refine own_to (V := s₁.setTop (mkF m 20 #[.val (.int qa), .val (.int qb), .val (.int qc), .val (.int qn), .val (.int qw), .val (.int (1 : Int32)), .val (.int c105), .unset, .unset, .unset, .unset, .unset] [(.int (65535 : Int32)), (.int qb)])) ?_ (fun t k => X0.ldcInt hx hown (mvT hZ (hw _ (List.mem_of_getElem? (i := 1) rfl))) (g := (mkF m 18 #[.val (.int qa), .val (.int qb), .val (.int qc), .val (.int qn), .val (.int qw), .val (.int (1 : Int32)), .val (.int c105), .unset, .unset, .unset, .unset, .unset] [(.int qb)])) rfl (hb hby at_18) t k)
    obtain ⟨c106, hc106⟩ : ∃ z : Int32, z = ((qb &&& (65535 : Int32)).toUInt32.toUInt16.toUInt32.toInt32) := ⟨_, rfl⟩
    have rc_c106 : ¬ c106 < 0 ∧ ¬ (65535 : Int32) < c106 := by rw [hc106]; exact own_i2c_rng _
    refine own_to (V := s₁.setTop (mkF m 22 #[.val (.int qa), .val (.int qb), .val (.int qc), .val (.int qn), .val (.int qw), .val (.int (1 : Int32)), .val (.int c105), .unset, .unset, .unset, .unset, .unset] [(.int c106)])) ?_ fun t k => (by
      first | rw [hc106] at k | skip
      refine XS.iand X0.here hx rfl (hb hby at_20) rfl ?_
      refine XS.i2c X0.here hx rfl (hb hby at_21) rfl ?_
      exact k)
    refine own_to (V := s₁.setTop (mkF m 25 #[.val (.int qa), .val (.int qb), .val (.int qc), .val (.int qn), .val (.int qw), .val (.int (1 : Int32)), .val (.int c105), .val (.int c106), .unset, .unset, .unset, .unset] [(.int qc)])) ?_ fun t k => (by
      refine XS.istore X0.here hx rfl (hb hby at_22) rfl (l' := #[.val (.int qa), .val (.int qb), .val (.int qc), .val (.int qn), .val (.int qw), .val (.int (1 : Int32)), .val (.int c105), .val (.int c106), .unset, .unset, .unset, .unset]) rfl ?_
      refine XS.iloadN X0.here hx rfl (hb hby at_24) rfl ?_
      exact k)
    refine own_to (V := s₁.setTop (mkF m 27 #[.val (.int qa), .val (.int qb), .val (.int qc), .val (.int qn), .val (.int qw), .val (.int (1 : Int32)), .val (.int c105), .val (.int c106), .unset, .unset, .unset, .unset] [(.int (65535 : Int32)), (.int qc)])) ?_ (fun t k => X0.ldcInt hx hown (mvT hZ (hw _ (List.mem_of_getElem? (i := 1) rfl))) (g := (mkF m 25 #[.val (.int qa), .val (.int qb), .val (.int qc), .val (.int qn), .val (.int qw), .val (.int (1 : Int32)), .val (.int c105), .val (.int c106), .unset, .unset, .unset, .unset] [(.int qc)])) rfl (hb hby at_25) t k)
    obtain ⟨c107, hc107⟩ : ∃ z : Int32, z = ((qc &&& (65535 : Int32)).toUInt32.toUInt16.toUInt32.toInt32) := ⟨_, rfl⟩
    have rc_c107 : ¬ c107 < 0 ∧ ¬ (65535 : Int32) < c107 := by rw [hc107]; exact own_i2c_rng _
    refine own_to (V := s₁.setTop (mkF m 29 #[.val (.int qa), .val (.int qb), .val (.int qc), .val (.int qn), .val (.int qw), .val (.int (1 : Int32)), .val (.int c105), .val (.int c106), .unset, .unset, .unset, .unset] [(.int c107)])) ?_ fun t k => (by
      first | rw [hc107] at k | skip
      refine XS.iand X0.here hx rfl (hb hby at_27) rfl ?_
      refine XS.i2c X0.here hx rfl (hb hby at_28) rfl ?_
      exact k)
    refine own_to (V := s₁.setTop (mkF m 33 #[.val (.int qa), .val (.int qb), .val (.int qc), .val (.int qn), .val (.int qw), .val (.int (1 : Int32)), .val (.int c105), .val (.int c106), .val (.int c107), .unset, .unset, .unset] [(.int c105)])) ?_ fun t k => (by
      refine XS.istore X0.here hx rfl (hb hby at_29) rfl (l' := #[.val (.int qa), .val (.int qb), .val (.int qc), .val (.int qn), .val (.int qw), .val (.int (1 : Int32)), .val (.int c105), .val (.int c106), .val (.int c107), .unset, .unset, .unset]) rfl ?_
      refine XS.iload X0.here hx rfl (hb hby at_31) rfl ?_
      exact k)
    obtain ⟨_, _, ⟨T108, L108, k108, n108⟩, -, X108, ⟨Lc108, hQ108, l108, y108, z108⟩, st108⟩ := Jvm.LawKit.callS X0 hx (y := (⟨"com/example/turnwise/turnwise/input/IdsCheckPinLaw", "control", "(C)Z"⟩ : MethodName)) hown (mvT hZ (hw _ (List.mem_of_getElem? (i := 2) rfl))) (mvT hZ (hw _ (List.mem_of_getElem? (i := 3) rfl))) (mvT hZ (hw _ (List.mem_of_getElem? (i := 4) rfl))) (mvT hZ (hw _ (List.mem_of_getElem? (i := 5) rfl))) (by decide) (backOf (W := 0) (own_rmctl l Z a0 hw hst [] c105 h0 n0 X00 ) hZ (hw _ (List.mem_of_getElem? (i := 5) rfl)) (hw _ (List.mem_of_getElem? (i := 4) rfl)) (by decide) (by decide)) (g := (mkF m 33 #[.val (.int qa), .val (.int qb), .val (.int qc), .val (.int qn), .val (.int qw), .val (.int (1 : Int32)), .val (.int c105), .val (.int c106), .val (.int c107), .unset, .unset, .unset] [(.int c105)])) rfl (by rw [hml]; rfl) (argsL := [(.int c105)]) (rest := []) (lenOf own_pd13 rfl) rfl (by show 2 * 0 + _ ≤ _; exact Nat.le_of_eq rfl) (hb hby at_33) (fun _ _ => ⟨rfl, e0, (by decide : 0 + 0 ≤ _), (by decide : 0 + 0 ≤ _)⟩)
    dsimp only [Pt.U, Pt.locs, Pt.cells, Pt.slots] at X108 l108 y108 z108 st108 hQ108
    subst l108 y108 z108
    rcases hQ108 with ⟨hv108, N108q, K108, g108_0⟩ | ⟨hv108, N108q, K108, g108_0⟩
    · skip
      subst hv108
      obtain ⟨h108, e108⟩ : ∃ z, T108.heap = z := ⟨_, rfl⟩
      rw [e108] at K108
      have Xo108 : Old Z n0 h108 := X00.keep K108 all0
      have KK108 : Keep h0 h108 [] := KK0.trans K108 all0
      have N108 := Fr.app N0 N108q
      refine own_to (V := T108.setTop (mkF m 36 #[.val (.int qa), .val (.int qb), .val (.int qc), .val (.int qn), .val (.int qw), .val (.int (1 : Int32)), .val (.int c105), .val (.int c106), .val (.int c107), .unset, .unset, .unset] [(.int (1 : Int32))])) ?_ st108
      refine own_to (V := T108.setTop (mkF m 40 #[.val (.int qa), .val (.int qb), .val (.int qc), .val (.int qn), .val (.int qw), .val (.int (1 : Int32)), .val (.int c105), .val (.int c106), .val (.int c107), .unset, .unset, .unset] [(.int (1 : Int32))])) ?_ fun t k => (by
        refine XS.ifNo X108.here hx rfl (hb hby at_36) rfl ((if0 _ _).trans (feq ((by decide) : ¬ ((1 : Int32) = (0 : Int32)))).1) ?_
        refine XS.iconst X108.here hx rfl (hb hby at_39) ?_
        exact k)
      exact own_retN X108 hx (t := .boolean) (w := (1 : Int32)) hret (by decide) rfl hlk (hb hby at_40) (by rw [e108]; exact (⟨rfl, N108, KK108⟩)) (by decide) (by decide)
    · skip
      subst hv108
      obtain ⟨h108, e108⟩ : ∃ z, T108.heap = z := ⟨_, rfl⟩
      rw [e108] at K108
      have Xo108 : Old Z n0 h108 := X00.keep K108 all0
      have KK108 : Keep h0 h108 [] := KK0.trans K108 all0
      have N108 := Fr.app N0 N108q
      refine own_to (V := T108.setTop (mkF m 36 #[.val (.int qa), .val (.int qb), .val (.int qc), .val (.int qn), .val (.int qw), .val (.int (1 : Int32)), .val (.int c105), .val (.int c106), .val (.int c107), .unset, .unset, .unset] [(.int (0 : Int32))])) ?_ st108
      refine own_to (V := T108.setTop (mkF m 79 #[.val (.int qa), .val (.int qb), .val (.int qc), .val (.int qn), .val (.int qw), .val (.int (1 : Int32)), .val (.int c105), .val (.int c106), .val (.int c107), .unset, .unset, .unset] [])) ?_ fun t k => (by
        refine XS.ifYes X108.here hx rfl (pc0 := 36) (pc' := 41) rfl (hb hby at_36) rfl ((if0 _ _).trans (teq ((by decide) : (0 : Int32) = (0 : Int32))).1) (by decide) (by decide) ?_
        refine XS.iload X108.here hx rfl (hb hby at_41) rfl ?_
        refine XS.iconst X108.here hx rfl (hb hby at_43) ?_
        refine XS.icmpYes X108.here hx rfl (pc0 := 44) (pc' := 57) rfl (hb hby at_44) rfl (tlt ((by decide) : (1 : Int32) < (2 : Int32))).1 (by decide) (by decide) ?_
        refine XS.iload X108.here hx rfl (hb hby at_57) rfl ?_
        refine XS.iconst X108.here hx rfl (hb hby at_59) ?_
        refine XS.icmpYes X108.here hx rfl (pc0 := 60) (pc' := 73) rfl (hb hby at_60) rfl (tlt ((by decide) : (1 : Int32) < (3 : Int32))).1 (by decide) (by decide) ?_
        refine XS.iload X108.here hx rfl (hb hby at_73) rfl ?_
        refine XS.iconst X108.here hx rfl (hb hby at_75) ?_
        refine XS.icmpNo X108.here hx rfl (hb hby at_76) rfl (teq ((by decide) : (1 : Int32) = (1 : Int32))).2 ?_
        exact k)
      obtain ⟨T109, h109, X109, e109, E109, A109, D109, U109, st109⟩ := newO X108 hx hZ hown (hw _ (List.mem_of_getElem? (i := 6) rfl)) (hw _ (List.mem_of_getElem? (i := 7) rfl)) (hw _ (List.mem_of_getElem? (i := 8) rfl)) e108 (g := (mkF m 79 #[.val (.int qa), .val (.int qb), .val (.int qc), .val (.int qn), .val (.int qw), .val (.int (1 : Int32)), .val (.int c105), .val (.int c106), .val (.int c107), .unset, .unset, .unset] [])) rfl (hb hby at_79) (by decide) (by decide)
      obtain ⟨b109, g109⟩ : ∃ z, z = h108.size := ⟨_, rfl⟩
      rw [← g109] at A109 D109 U109 st109
      have Xo109 : Old Z n0 h109 := Xo108.ext E109
      have KK109 : Keep h0 h109 [] := KK108.ext E109
      have ge_b109 : n0 ≤ b109 := Nat.le_trans (own_ole Xo108) (Nat.le_of_eq g109.symm)
      have sz_b109 : h0.size ≤ b109 := Nat.le_trans KK108.1 (Nat.le_of_eq g109.symm)
      have Fi109_52 : Fld Z h109 b109 "java/lang/String" "coder" "B" (.int (0 : Int32)) := D109 (Or.inr (hw _ (List.mem_of_getElem? (i := 52) rfl))) (ty := .byte) (by decide)
      have Fi109_54 : Fld Z h109 b109 "java/lang/String" "value" "[B" .null := D109 (Or.inr (hw _ (List.mem_of_getElem? (i := 54) rfl))) (ty := (.array .byte)) (by decide)
      refine own_to (V := T109.setTop (mkF m 82 #[.val (.int qa), .val (.int qb), .val (.int qc), .val (.int qn), .val (.int qw), .val (.int (1 : Int32)), .val (.int c105), .val (.int c106), .val (.int c107), .unset, .unset, .unset] [(.ref b109)])) ?_ st109
      refine own_to (V := T109.setTop (mkF m 84 #[.val (.int qa), .val (.int qb), .val (.int qc), .val (.int qn), .val (.int qw), .val (.int (1 : Int32)), .val (.int c105), .val (.int c106), .val (.int c107), .unset, .unset, .unset] [(.int (1 : Int32)), (.ref b109), (.ref b109)])) ?_ fun t k => (by
        refine XS.dup X109.here hx rfl (hb hby at_82) rfl rfl ?_
        refine XS.iconst X109.here hx rfl (hb hby at_83) ?_
        exact k)
      obtain ⟨T110, h110, k110, X110, e110, E110, A110, st110⟩ := newP X109 hx hZ (hw _ (List.mem_of_getElem? (i := 9) rfl)) e109 (g := (mkF m 84 #[.val (.int qa), .val (.int qb), .val (.int qc), .val (.int qn), .val (.int qw), .val (.int (1 : Int32)), .val (.int c105), .val (.int c106), .val (.int c107), .unset, .unset, .unset] [(.int (1 : Int32)), (.ref b109), (.ref b109)])) rfl (hb hby at_84) rfl (by decide) (cap := 1) (by decide) (by decide) (by decide) (by decide)
      obtain ⟨b110, g110⟩ : ∃ z, z = h109.size := ⟨_, rfl⟩
      rw [← g110] at A110 st110
      have Xo110 : Old Z n0 h110 := Xo109.ext E110
      have KK110 : Keep h0 h110 [] := KK109.ext E110
      have ge_b110 : n0 ≤ b110 := Nat.le_trans (own_ole Xo109) (Nat.le_of_eq g110.symm)
      have sz_b110 : h0.size ≤ b110 := Nat.le_trans KK109.1 (Nat.le_of_eq g110.symm)
      have V110 : Arv Z h110 b110 k110 .char (1 : Int32) [(.int (0 : Int32))] (.int (0 : Int32)) := (Arv.new A110 (by decide)).pad (pad_rep [] (.int (0 : Int32)) 1)
      refine own_to (V := T110.setTop (mkF m 86 #[.val (.int qa), .val (.int qb), .val (.int qc), .val (.int qn), .val (.int qw), .val (.int (1 : Int32)), .val (.int c105), .val (.int c106), .val (.int c107), .unset, .unset, .unset] [(.ref b110), (.ref b109), (.ref b109)])) ?_ st110
      refine own_to (V := T110.setTop (mkF m 90 #[.val (.int qa), .val (.int qb), .val (.int qc), .val (.int qn), .val (.int qw), .val (.int (1 : Int32)), .val (.int c105), .val (.int c106), .val (.int c107), .unset, .unset, .unset] [(.int c105), (.int (0 : Int32)), (.ref b110), (.ref b110), (.ref b109), (.ref b109)])) ?_ fun t k => (by
        refine XS.dup X110.here hx rfl (hb hby at_86) rfl rfl ?_
        refine XS.iconst X110.here hx rfl (hb hby at_87) ?_
        refine XS.iload X110.here hx rfl (hb hby at_88) rfl ?_
        exact k)
      obtain ⟨cl111, Ar111, q111, S111, M111, H111, G111⟩ := id V110
      obtain ⟨T111, h111, X111, e111, W111, st111⟩ := stC X110 hx hZ e110 Ar111 (j := (0 : Int32)) (inb_of S111 ⟨by decide, by decide⟩) (g := (mkF m 90 #[.val (.int qa), .val (.int qb), .val (.int qc), .val (.int qn), .val (.int qw), .val (.int (1 : Int32)), .val (.int c105), .val (.int c106), .val (.int c107), .unset, .unset, .unset] [(.int c105), (.int (0 : Int32)), (.ref b110), (.ref b110), (.ref b109), (.ref b109)])) rfl rfl (hb hby at_90)
      rw [own_narC rc_c105] at W111
      have Xo111 : Old Z n0 h111 := Xo110.wr W111 ge_b110
      have KK111 : Keep h0 h111 [] := KK110.wr W111 (Or.inr sz_b110)
      have V111 : Arv Z h111 b110 k110 .char (1 : Int32) [(.int c105)] (.int (0 : Int32)) := Arv.set Ar111 q111 S111 M111 H111 G111 (own_fitC rc_c105) W111 0 rfl (Nat.le_of_ble_eq_true rfl)
      have N111 := Fr.snoc X111 N108 ge_b110
      refine own_to (V := T111.setTop (mkF m 91 #[.val (.int qa), .val (.int qb), .val (.int qc), .val (.int qn), .val (.int qw), .val (.int (1 : Int32)), .val (.int c105), .val (.int c106), .val (.int c107), .unset, .unset, .unset] [(.ref b110), (.ref b109), (.ref b109)])) ?_ st111
      have Fg113 : Arv Z h111 b110 k110 .char (Int32.ofNat ([c105] : List Int32).length) (([c105] : List Int32).map Value.int) (.int (0 : Int32)) := V111
      have F114 : Exa Z h111 b109 "java/lang/String" := ((A109.ext E110).wr W111)
      have F115 : Fld Z h111 b109 "java/lang/String" "value" "[B" .null := ((Fi109_54.ext E110).other W111 (Or.inl (Nat.ne_of_lt (Nat.lt_of_lt_of_le A109.lt (Nat.le_of_eq g110.symm)))))
      have F116 : Fld Z h111 b109 "java/lang/String" "coder" "B" (.int (0 : Int32)) := ((Fi109_52.ext E110).other W111 (Or.inl (Nat.ne_of_lt (Nat.lt_of_lt_of_le A109.lt (Nat.le_of_eq g110.symm)))))
      obtain ⟨_, _, ⟨T112, L112, k112, n112⟩, -, X112, ⟨Lc112, hQ112, l112, y112, z112⟩, st112⟩ := X111.specialBack hx (y := (⟨"java/lang/String", "<init>", "([C)V"⟩ : MethodName)) rfl hown (mvT hZ (hw _ (List.mem_of_getElem? (i := 10) rfl))) (mvT hZ (hw _ (List.mem_of_getElem? (i := 11) rfl))) (mvT hZ (hw _ (List.mem_of_getElem? (i := 12) rfl))) (by decide) (backOf (W := 1) (own_rmsini l Z a0 hw hst [] b109 b110 k110 ([c105] : List Int32) h111 n0 Xo111 F114 F115 F116 ge_b109 Fg113 (own_allS rc_c105 own_all0) (Nat.le_of_ble_eq_true rfl) (Nat.le_of_ble_eq_true rfl)) hZ (hw _ (List.mem_of_getElem? (i := 12) rfl)) (hw _ (List.mem_of_getElem? (i := 8) rfl)) (by decide) (by decide)) (g := (mkF m 91 #[.val (.int qa), .val (.int qb), .val (.int qc), .val (.int qn), .val (.int qw), .val (.int (1 : Int32)), .val (.int c105), .val (.int c106), .val (.int c107), .unset, .unset, .unset] [(.ref b110), (.ref b109), (.ref b109)])) rfl (by rw [hml]; rfl) (Steps.refl _) (a := b109) (argsL := [(.ref b110)]) (rest := [(.ref b109)]) (lenOf own_pd20 rfl) rfl (by show 2 * 0 + _ ≤ _; exact Nat.le_of_eq rfl) (hb hby at_91) (fun _ _ => ⟨rfl, e111, (by decide : 2 + 2 ≤ _), (by decide : 5 + 9 ≤ _)⟩)
      dsimp only [Pt.U, Pt.locs, Pt.cells, Pt.slots] at X112 l112 y112 z112 st112 hQ112
      subst l112 y112 z112
      obtain ⟨ou112, hv112, N112q, K112, g112_0, g112_1, g112_2⟩ := hQ112
      subst hv112
      obtain ⟨h112, e112⟩ : ∃ z, T112.heap = z := ⟨_, rfl⟩
      rw [e112] at K112 g112_2
      have Xo112 : Old Z n0 h112 := Xo111.keep K112 (allS ge_b109 all0)
      have KK112 : Keep h0 h112 [] := KK111.trans K112 (allS (Or.inr sz_b109) all0)
      have N112 := Fr.app N111 N112q
      have ge_ou112 : n0 ≤ ou112 := Nat.le_trans (own_ole Xo111) g112_0
      have sz_ou112 : h0.size ≤ ou112 := Nat.le_trans KK111.1 g112_0
      refine own_to (V := T112.setTop (mkF m 94 #[.val (.int qa), .val (.int qb), .val (.int qc), .val (.int qn), .val (.int qw), .val (.int (1 : Int32)), .val (.int c105), .val (.int c106), .val (.int c107), .unset, .unset, .unset] [(.ref b109)])) ?_ (fun t k => st112.trans k)
      obtain ⟨c117, hc117⟩ : ∃ z : Int32, z = ((qw &&& (255 : Int32)).toUInt32.toUInt16.toUInt32.toInt32) := ⟨_, rfl⟩
      have rc_c117 : ¬ c117 < 0 ∧ ¬ (65535 : Int32) < c117 := by rw [hc117]; exact own_i2c_rng _
      have rb_c117 : ¬ c117 < 0 ∧ ¬ (255 : Int32) < c117 := by rw [hc117]; exact own_and255 _
      refine own_to (V := T112.setTop (mkF m 164 #[.val (.int qa), .val (.int qb), .val (.int qc), .val (.int qn), .val (.int qw), .val (.int (1 : Int32)), .val (.int c105), .val (.int c106), .val (.int c107), .val (.ref b109), .unset, .unset] [(.int c117)])) ?_ fun t k => (by
        first | rw [hc117] at k | skip
        refine XS.astore X112.here hx rfl (hb hby at_94) rfl rfl (l' := #[.val (.int qa), .val (.int qb), .val (.int qc), .val (.int qn), .val (.int qw), .val (.int (1 : Int32)), .val (.int c105), .val (.int c106), .val (.int c107), .val (.ref b109), .unset, .unset]) rfl ?_
        refine XS.goto X112.here hx rfl (pc0 := 96) (pc' := 157) rfl (hb hby at_96) (by decide) (by decide) ?_
        refine XS.iload X112.here hx rfl (hb hby at_157) rfl ?_
        refine XS.sipush X112.here hx rfl (hb hby at_159) ?_
        refine XS.iand X112.here hx rfl (hb hby at_162) rfl ?_
        refine XS.i2c X112.here hx rfl (hb hby at_163) rfl ?_
        exact k)
      obtain ⟨_, _, ⟨T118, L118, k118, n118⟩, -, X118, ⟨Lc118, hQ118, l118, y118, z118⟩, st118⟩ := Jvm.LawKit.callS X112 hx (y := (⟨"java/lang/String", "valueOf", "(C)Ljava/lang/String;"⟩ : MethodName)) hown (mvT hZ (hw _ (List.mem_of_getElem? (i := 55) rfl))) (mvT hZ (hw _ (List.mem_of_getElem? (i := 56) rfl))) (mvT hZ (hw _ (List.mem_of_getElem? (i := 8) rfl))) (mvT hZ (hw _ (List.mem_of_getElem? (i := 57) rfl))) (by decide) (backOf (W := 0) (own_rmsval l Z a0 hw hst [] c117 h112 n0 Xo112 rb_c117) hZ (hw _ (List.mem_of_getElem? (i := 57) rfl)) (hw _ (List.mem_of_getElem? (i := 8) rfl)) (by decide) (by decide)) (g := (mkF m 164 #[.val (.int qa), .val (.int qb), .val (.int qc), .val (.int qn), .val (.int qw), .val (.int (1 : Int32)), .val (.int c105), .val (.int c106), .val (.int c107), .val (.ref b109), .unset, .unset] [(.int c117)])) rfl (by rw [hml]; rfl) (argsL := [(.int c117)]) (rest := []) (lenOf own_pd21 rfl) rfl (by show 2 * 0 + _ ≤ _; exact Nat.le_of_eq rfl) (hb hby at_164) (fun _ _ => ⟨rfl, e112, (by decide : 4 + 2 ≤ _), (by decide : 14 + 5 ≤ _)⟩)
      dsimp only [Pt.U, Pt.locs, Pt.cells, Pt.slots] at X118 l118 y118 z118 st118 hQ118
      subst l118 y118 z118
      obtain ⟨oa118, ou118, hv118, N118q, K118, g118_0, g118_1, g118_2, g118_3⟩ := hQ118
      subst hv118
      obtain ⟨h118, e118⟩ : ∃ z, T118.heap = z := ⟨_, rfl⟩
      rw [e118] at K118 g118_3
      have Xo118 : Old Z n0 h118 := Xo112.keep K118 all0
      have KK118 : Keep h0 h118 [] := KK112.trans K118 all0
      have N118 := Fr.app N112 N118q
      have ge_oa118 : n0 ≤ oa118 := Nat.le_trans (own_ole Xo112) g118_0
      have sz_oa118 : h0.size ≤ oa118 := Nat.le_trans KK112.1 g118_0
      have ge_ou118 : n0 ≤ ou118 := Nat.le_trans (own_ole Xo112) g118_1
      have sz_ou118 : h0.size ≤ ou118 := Nat.le_trans KK112.1 g118_1
      refine own_to (V := T118.setTop (mkF m 167 #[.val (.int qa), .val (.int qb), .val (.int qc), .val (.int qn), .val (.int qw), .val (.int (1 : Int32)), .val (.int c105), .val (.int c106), .val (.int c107), .val (.ref b109), .unset, .unset] [(.ref oa118)])) ?_ st118
      refine own_to (V := T118.setTop (mkF m 173 #[.val (.int qa), .val (.int qb), .val (.int qc), .val (.int qn), .val (.int qw), .val (.int (1 : Int32)), .val (.int c105), .val (.int c106), .val (.int c107), .val (.ref b109), .val (.ref oa118), .unset] [(.ref oa118), (.ref b109)])) ?_ fun t k => (by
        refine XS.astore X118.here hx rfl (hb hby at_167) rfl rfl (l' := #[.val (.int qa), .val (.int qb), .val (.int qc), .val (.int qn), .val (.int qw), .val (.int (1 : Int32)), .val (.int c105), .val (.int c106), .val (.int c107), .val (.ref b109), .val (.ref oa118), .unset]) rfl ?_
        refine XS.aload X118.here hx rfl (hb hby at_169) rfl rfl ?_
        refine XS.aload X118.here hx rfl (hb hby at_171) rfl rfl ?_
        exact k)
      have F120 : own_Str Z h118 b109 ou112 ([c105] : List Int32) := (g112_2.keep K118 List.not_mem_nil List.not_mem_nil)
      obtain ⟨_, _, ⟨T119, L119, k119, n119⟩, -, X119, ⟨Lc119, hQ119, l119, y119, z119⟩, st119⟩ := Jvm.LawKit.callS X118 hx (y := (⟨"com/example/turnwise/turnwise/input/Ids", "check", "(Ljava/lang/String;Ljava/lang/String;)Ljava/lang/String;"⟩ : MethodName)) hown (mvT hZ (hw _ (List.mem_of_getElem? (i := 69) rfl))) (mvT hZ (hw _ (List.mem_of_getElem? (i := 70) rfl))) (mvT hZ (hw _ (List.mem_of_getElem? (i := 71) rfl))) (mvT hZ (hw _ (List.mem_of_getElem? (i := 72) rfl))) (by decide) (backOf (W := 0) (own_rmchk1 l Z a0 hw hst [] b109 ou112 oa118 c105 h118 n0 Xo118 F120 rc_c105 g108_0) hZ (hw _ (List.mem_of_getElem? (i := 72) rfl)) (hw _ (List.mem_of_getElem? (i := 71) rfl)) (by decide) (by decide)) (g := (mkF m 173 #[.val (.int qa), .val (.int qb), .val (.int qc), .val (.int qn), .val (.int qw), .val (.int (1 : Int32)), .val (.int c105), .val (.int c106), .val (.int c107), .val (.ref b109), .val (.ref oa118), .unset] [(.ref oa118), (.ref b109)])) rfl (by rw [hml]; rfl) (argsL := [(.ref b109), (.ref oa118)]) (rest := []) (lenOf own_pd22 rfl) rfl (by show 2 * 0 + _ ≤ _; exact Nat.le_of_eq rfl) (hb hby at_173) (fun _ _ => ⟨rfl, e118, (by decide : 6 + 0 ≤ _), (by decide : 19 + 0 ≤ _)⟩)
      dsimp only [Pt.U, Pt.locs, Pt.cells, Pt.slots] at X119 l119 y119 z119 st119 hQ119
      subst l119 y119 z119
      obtain ⟨hv119, N119q, K119⟩ := hQ119
      subst hv119
      obtain ⟨h119, e119⟩ : ∃ z, T119.heap = z := ⟨_, rfl⟩
      rw [e119] at K119
      have Xo119 : Old Z n0 h119 := Xo118.keep K119 all0
      have KK119 : Keep h0 h119 [] := KK118.trans K119 all0
      have N119 := Fr.app N118 N119q
      refine own_to (V := T119.setTop (mkF m 176 #[.val (.int qa), .val (.int qb), .val (.int qc), .val (.int qn), .val (.int qw), .val (.int (1 : Int32)), .val (.int c105), .val (.int c106), .val (.int c107), .val (.ref b109), .val (.ref oa118), .unset] [(.ref b109)])) ?_ st119
      refine own_to (V := T119.setTop (mkF m 182 #[.val (.int qa), .val (.int qb), .val (.int qc), .val (.int qn), .val (.int qw), .val (.int (1 : Int32)), .val (.int c105), .val (.int c106), .val (.int c107), .val (.ref b109), .val (.ref oa118), .val (.ref b109)] [(.ref b109), (.ref b109)])) ?_ fun t k => (by
        refine XS.astore X119.here hx rfl (hb hby at_176) rfl rfl (l' := #[.val (.int qa), .val (.int qb), .val (.int qc), .val (.int qn), .val (.int qw), .val (.int (1 : Int32)), .val (.int c105), .val (.int c106), .val (.int c107), .val (.ref b109), .val (.ref oa118), .val (.ref b109)]) rfl ?_
        refine XS.aload X119.here hx rfl (hb hby at_178) rfl rfl ?_
        refine XS.aload X119.here hx rfl (hb hby at_180) rfl rfl ?_
        exact k)
      refine own_to (V := T119.setTop (mkF m 190 #[.val (.int qa), .val (.int qb), .val (.int qc), .val (.int qn), .val (.int qw), .val (.int (1 : Int32)), .val (.int c105), .val (.int c106), .val (.int c107), .val (.ref b109), .val (.ref oa118), .val (.ref b109)] [(.int (1 : Int32))])) ?_ fun t k => (by
        refine Jvm.RoadKit.acmp (g := (mkF m 182 #[.val (.int qa), .val (.int qb), .val (.int qc), .val (.int qn), .val (.int qw), .val (.int (1 : Int32)), .val (.int c105), .val (.int c106), .val (.int c107), .val (.ref b109), .val (.ref oa118), .val (.ref b109)] [(.ref b109), (.ref b109)])) X119 hx rfl rfl rfl (pc0 := 182) (pc' := 185) (same := true) rfl (hb hby at_182) rfl (decide_eq_true rfl) (by decide) (by decide) ?_
        refine XS.iconst X119.here hx rfl (hb hby at_185) ?_
        refine XS.goto X119.here hx rfl (pc0 := 186) (pc' := 190) rfl (hb hby at_186) (by decide) (by decide) ?_
        exact k)
      exact own_retN X119 hx (t := .boolean) (w := (1 : Int32)) hret (by decide) rfl hlk (hb hby at_190) (by rw [e119]; exact (⟨rfl, N119, KK119⟩)) (by decide) (by decide)
  · skip
    subst hcv103_1
    refine own_to (V := s₁.setTop (mkF m 11 #[.val (.int qa), .val (.int qb), .val (.int qc), .val (.int qn), .val (.int qw), .val (.int (2 : Int32)), .unset, .unset, .unset, .unset, .unset, .unset] [(.int qa)])) ?_ fun t k => (by
      refine XS.iloadN X0.here hx rfl (hb hby at_10) rfl ?_
      exact k)
    refine own_to (V := s₁.setTop (mkF m 13 #[.val (.int qa), .val (.int qb), .val (.int qc), .val (.int qn), .val (.int qw), .val (.int (2 : Int32)), .unset, .unset, .unset, .unset, .unset, .unset] [(.int (65535 : Int32)), (.int qa)])) ?_ (fun t k => X0.ldcInt hx hown (mvT hZ (hw _ (List.mem_of_getElem? (i := 1) rfl))) (g := (mkF m 11 #[.val (.int qa), .val (.int qb), .val (.int qc), .val (.int qn), .val (.int qw), .val (.int (2 : Int32)), .unset, .unset, .unset, .unset, .unset, .unset] [(.int qa)])) rfl (hb hby at_11) t k)
    obtain ⟨c121, hc121⟩ : ∃ z : Int32, z = ((qa &&& (65535 : Int32)).toUInt32.toUInt16.toUInt32.toInt32) := ⟨_, rfl⟩
    have rc_c121 : ¬ c121 < 0 ∧ ¬ (65535 : Int32) < c121 := by rw [hc121]; exact own_i2c_rng _
    refine own_to (V := s₁.setTop (mkF m 15 #[.val (.int qa), .val (.int qb), .val (.int qc), .val (.int qn), .val (.int qw), .val (.int (2 : Int32)), .unset, .unset, .unset, .unset, .unset, .unset] [(.int c121)])) ?_ fun t k => (by
      first | rw [hc121] at k | skip
      refine XS.iand X0.here hx rfl (hb hby at_13) rfl ?_
      refine XS.i2c X0.here hx rfl (hb hby at_14) rfl ?_
      exact k)
    refine own_to (V := s₁.setTop (mkF m 18 #[.val (.int qa), .val (.int qb), .val (.int qc), .val (.int qn), .val (.int qw), .val (.int (2 : Int32)), .val (.int c121), .unset, .unset, .unset, .unset, .unset] [(.int qb)])) ?_ fun t k => (by
      refine XS.istore X0.here hx rfl (hb hby at_15) rfl (l' := #[.val (.int qa), .val (.int qb), .val (.int qc), .val (.int qn), .val (.int qw), .val (.int (2 : Int32)), .val (.int c121), .unset, .unset, .unset, .unset, .unset]) rfl ?_
      refine XS.iloadN X0.here hx rfl (hb hby at_17) rfl ?_
      exact k)
    refine own_to (V := s₁.setTop (mkF m 20 #[.val (.int qa), .val (.int qb), .val (.int qc), .val (.int qn), .val (.int qw), .val (.int (2 : Int32)), .val (.int c121), .unset, .unset, .unset, .unset, .unset] [(.int (65535 : Int32)), (.int qb)])) ?_ (fun t k => X0.ldcInt hx hown (mvT hZ (hw _ (List.mem_of_getElem? (i := 1) rfl))) (g := (mkF m 18 #[.val (.int qa), .val (.int qb), .val (.int qc), .val (.int qn), .val (.int qw), .val (.int (2 : Int32)), .val (.int c121), .unset, .unset, .unset, .unset, .unset] [(.int qb)])) rfl (hb hby at_18) t k)
    obtain ⟨c122, hc122⟩ : ∃ z : Int32, z = ((qb &&& (65535 : Int32)).toUInt32.toUInt16.toUInt32.toInt32) := ⟨_, rfl⟩
    have rc_c122 : ¬ c122 < 0 ∧ ¬ (65535 : Int32) < c122 := by rw [hc122]; exact own_i2c_rng _
    refine own_to (V := s₁.setTop (mkF m 22 #[.val (.int qa), .val (.int qb), .val (.int qc), .val (.int qn), .val (.int qw), .val (.int (2 : Int32)), .val (.int c121), .unset, .unset, .unset, .unset, .unset] [(.int c122)])) ?_ fun t k => (by
      first | rw [hc122] at k | skip
      refine XS.iand X0.here hx rfl (hb hby at_20) rfl ?_
      refine XS.i2c X0.here hx rfl (hb hby at_21) rfl ?_
      exact k)
    refine own_to (V := s₁.setTop (mkF m 25 #[.val (.int qa), .val (.int qb), .val (.int qc), .val (.int qn), .val (.int qw), .val (.int (2 : Int32)), .val (.int c121), .val (.int c122), .unset, .unset, .unset, .unset] [(.int qc)])) ?_ fun t k => (by
      refine XS.istore X0.here hx rfl (hb hby at_22) rfl (l' := #[.val (.int qa), .val (.int qb), .val (.int qc), .val (.int qn), .val (.int qw), .val (.int (2 : Int32)), .val (.int c121), .val (.int c122), .unset, .unset, .unset, .unset]) rfl ?_
      refine XS.iloadN X0.here hx rfl (hb hby at_24) rfl ?_
      exact k)
    refine own_to (V := s₁.setTop (mkF m 27 #[.val (.int qa), .val (.int qb), .val (.int qc), .val (.int qn), .val (.int qw), .val (.int (2 : Int32)), .val (.int c121), .val (.int c122), .unset, .unset, .unset, .unset] [(.int (65535 : Int32)), (.int qc)])) ?_ (fun t k => X0.ldcInt hx hown (mvT hZ (hw _ (List.mem_of_getElem? (i := 1) rfl))) (g := (mkF m 25 #[.val (.int qa), .val (.int qb), .val (.int qc), .val (.int qn), .val (.int qw), .val (.int (2 : Int32)), .val (.int c121), .val (.int c122), .unset, .unset, .unset, .unset] [(.int qc)])) rfl (hb hby at_25) t k)
    obtain ⟨c123, hc123⟩ : ∃ z : Int32, z = ((qc &&& (65535 : Int32)).toUInt32.toUInt16.toUInt32.toInt32) := ⟨_, rfl⟩
    have rc_c123 : ¬ c123 < 0 ∧ ¬ (65535 : Int32) < c123 := by rw [hc123]; exact own_i2c_rng _
    refine own_to (V := s₁.setTop (mkF m 29 #[.val (.int qa), .val (.int qb), .val (.int qc), .val (.int qn), .val (.int qw), .val (.int (2 : Int32)), .val (.int c121), .val (.int c122), .unset, .unset, .unset, .unset] [(.int c123)])) ?_ fun t k => (by
      first | rw [hc123] at k | skip
      refine XS.iand X0.here hx rfl (hb hby at_27) rfl ?_
      refine XS.i2c X0.here hx rfl (hb hby at_28) rfl ?_
      exact k)
    refine own_to (V := s₁.setTop (mkF m 33 #[.val (.int qa), .val (.int qb), .val (.int qc), .val (.int qn), .val (.int qw), .val (.int (2 : Int32)), .val (.int c121), .val (.int c122), .val (.int c123), .unset, .unset, .unset] [(.int c121)])) ?_ fun t k => (by
      refine XS.istore X0.here hx rfl (hb hby at_29) rfl (l' := #[.val (.int qa), .val (.int qb), .val (.int qc), .val (.int qn), .val (.int qw), .val (.int (2 : Int32)), .val (.int c121), .val (.int c122), .val (.int c123), .unset, .unset, .unset]) rfl ?_
      refine XS.iload X0.here hx rfl (hb hby at_31) rfl ?_
      exact k)
    obtain ⟨_, _, ⟨T124, L124, k124, n124⟩, -, X124, ⟨Lc124, hQ124, l124, y124, z124⟩, st124⟩ := Jvm.LawKit.callS X0 hx (y := (⟨"com/example/turnwise/turnwise/input/IdsCheckPinLaw", "control", "(C)Z"⟩ : MethodName)) hown (mvT hZ (hw _ (List.mem_of_getElem? (i := 2) rfl))) (mvT hZ (hw _ (List.mem_of_getElem? (i := 3) rfl))) (mvT hZ (hw _ (List.mem_of_getElem? (i := 4) rfl))) (mvT hZ (hw _ (List.mem_of_getElem? (i := 5) rfl))) (by decide) (backOf (W := 0) (own_rmctl l Z a0 hw hst [] c121 h0 n0 X00 ) hZ (hw _ (List.mem_of_getElem? (i := 5) rfl)) (hw _ (List.mem_of_getElem? (i := 4) rfl)) (by decide) (by decide)) (g := (mkF m 33 #[.val (.int qa), .val (.int qb), .val (.int qc), .val (.int qn), .val (.int qw), .val (.int (2 : Int32)), .val (.int c121), .val (.int c122), .val (.int c123), .unset, .unset, .unset] [(.int c121)])) rfl (by rw [hml]; rfl) (argsL := [(.int c121)]) (rest := []) (lenOf own_pd13 rfl) rfl (by show 2 * 0 + _ ≤ _; exact Nat.le_of_eq rfl) (hb hby at_33) (fun _ _ => ⟨rfl, e0, (by decide : 0 + 0 ≤ _), (by decide : 0 + 0 ≤ _)⟩)
    dsimp only [Pt.U, Pt.locs, Pt.cells, Pt.slots] at X124 l124 y124 z124 st124 hQ124
    subst l124 y124 z124
    rcases hQ124 with ⟨hv124, N124q, K124, g124_0⟩ | ⟨hv124, N124q, K124, g124_0⟩
    · skip
      subst hv124
      obtain ⟨h124, e124⟩ : ∃ z, T124.heap = z := ⟨_, rfl⟩
      rw [e124] at K124
      have Xo124 : Old Z n0 h124 := X00.keep K124 all0
      have KK124 : Keep h0 h124 [] := KK0.trans K124 all0
      have N124 := Fr.app N0 N124q
      refine own_to (V := T124.setTop (mkF m 36 #[.val (.int qa), .val (.int qb), .val (.int qc), .val (.int qn), .val (.int qw), .val (.int (2 : Int32)), .val (.int c121), .val (.int c122), .val (.int c123), .unset, .unset, .unset] [(.int (1 : Int32))])) ?_ st124
      refine own_to (V := T124.setTop (mkF m 40 #[.val (.int qa), .val (.int qb), .val (.int qc), .val (.int qn), .val (.int qw), .val (.int (2 : Int32)), .val (.int c121), .val (.int c122), .val (.int c123), .unset, .unset, .unset] [(.int (1 : Int32))])) ?_ fun t k => (by
        refine XS.ifNo X124.here hx rfl (hb hby at_36) rfl ((if0 _ _).trans (feq ((by decide) : ¬ ((1 : Int32) = (0 : Int32)))).1) ?_
        refine XS.iconst X124.here hx rfl (hb hby at_39) ?_
        exact k)
      exact own_retN X124 hx (t := .boolean) (w := (1 : Int32)) hret (by decide) rfl hlk (hb hby at_40) (by rw [e124]; exact (⟨rfl, N124, KK124⟩)) (by decide) (by decide)
    · skip
      subst hv124
      obtain ⟨h124, e124⟩ : ∃ z, T124.heap = z := ⟨_, rfl⟩
      rw [e124] at K124
      have Xo124 : Old Z n0 h124 := X00.keep K124 all0
      have KK124 : Keep h0 h124 [] := KK0.trans K124 all0
      have N124 := Fr.app N0 N124q
      refine own_to (V := T124.setTop (mkF m 36 #[.val (.int qa), .val (.int qb), .val (.int qc), .val (.int qn), .val (.int qw), .val (.int (2 : Int32)), .val (.int c121), .val (.int c122), .val (.int c123), .unset, .unset, .unset] [(.int (0 : Int32))])) ?_ st124
      refine own_to (V := T124.setTop (mkF m 49 #[.val (.int qa), .val (.int qb), .val (.int qc), .val (.int qn), .val (.int qw), .val (.int (2 : Int32)), .val (.int c121), .val (.int c122), .val (.int c123), .unset, .unset, .unset] [(.int c122)])) ?_ fun t k => (by
        refine XS.ifYes X124.here hx rfl (pc0 := 36) (pc' := 41) rfl (hb hby at_36) rfl ((if0 _ _).trans (teq ((by decide) : (0 : Int32) = (0 : Int32))).1) (by decide) (by decide) ?_
        refine XS.iload X124.here hx rfl (hb hby at_41) rfl ?_
        refine XS.iconst X124.here hx rfl (hb hby at_43) ?_
        refine XS.icmpNo X124.here hx rfl (hb hby at_44) rfl (flt ((by decide) : ¬ ((2 : Int32) < (2 : Int32)))).1 ?_
        refine XS.iload X124.here hx rfl (hb hby at_47) rfl ?_
        exact k)
      obtain ⟨_, _, ⟨T125, L125, k125, n125⟩, -, X125, ⟨Lc125, hQ125, l125, y125, z125⟩, st125⟩ := Jvm.LawKit.callS X124 hx (y := (⟨"com/example/turnwise/turnwise/input/IdsCheckPinLaw", "control", "(C)Z"⟩ : MethodName)) hown (mvT hZ (hw _ (List.mem_of_getElem? (i := 2) rfl))) (mvT hZ (hw _ (List.mem_of_getElem? (i := 3) rfl))) (mvT hZ (hw _ (List.mem_of_getElem? (i := 4) rfl))) (mvT hZ (hw _ (List.mem_of_getElem? (i := 5) rfl))) (by decide) (backOf (W := 0) (own_rmctl l Z a0 hw hst [] c122 h124 n0 Xo124 ) hZ (hw _ (List.mem_of_getElem? (i := 5) rfl)) (hw _ (List.mem_of_getElem? (i := 4) rfl)) (by decide) (by decide)) (g := (mkF m 49 #[.val (.int qa), .val (.int qb), .val (.int qc), .val (.int qn), .val (.int qw), .val (.int (2 : Int32)), .val (.int c121), .val (.int c122), .val (.int c123), .unset, .unset, .unset] [(.int c122)])) rfl (by rw [hml]; rfl) (argsL := [(.int c122)]) (rest := []) (lenOf own_pd13 rfl) rfl (by show 2 * 0 + _ ≤ _; exact Nat.le_of_eq rfl) (hb hby at_49) (fun _ _ => ⟨rfl, e124, (by decide : 0 + 0 ≤ _), (by decide : 0 + 0 ≤ _)⟩)
      dsimp only [Pt.U, Pt.locs, Pt.cells, Pt.slots] at X125 l125 y125 z125 st125 hQ125
      subst l125 y125 z125
      rcases hQ125 with ⟨hv125, N125q, K125, g125_0⟩ | ⟨hv125, N125q, K125, g125_0⟩
      · skip
        subst hv125
        obtain ⟨h125, e125⟩ : ∃ z, T125.heap = z := ⟨_, rfl⟩
        rw [e125] at K125
        have Xo125 : Old Z n0 h125 := Xo124.keep K125 all0
        have KK125 : Keep h0 h125 [] := KK124.trans K125 all0
        have N125 := Fr.app N124 N125q
        refine own_to (V := T125.setTop (mkF m 52 #[.val (.int qa), .val (.int qb), .val (.int qc), .val (.int qn), .val (.int qw), .val (.int (2 : Int32)), .val (.int c121), .val (.int c122), .val (.int c123), .unset, .unset, .unset] [(.int (1 : Int32))])) ?_ st125
        refine own_to (V := T125.setTop (mkF m 56 #[.val (.int qa), .val (.int qb), .val (.int qc), .val (.int qn), .val (.int qw), .val (.int (2 : Int32)), .val (.int c121), .val (.int c122), .val (.int c123), .unset, .unset, .unset] [(.int (1 : Int32))])) ?_ fun t k => (by
          refine XS.ifNo X125.here hx rfl (hb hby at_52) rfl ((if0 _ _).trans (feq ((by decide) : ¬ ((1 : Int32) = (0 : Int32)))).1) ?_
          refine XS.iconst X125.here hx rfl (hb hby at_55) ?_
          exact k)
        exact own_retN X125 hx (t := .boolean) (w := (1 : Int32)) hret (by decide) rfl hlk (hb hby at_56) (by rw [e125]; exact (⟨rfl, N125, KK125⟩)) (by decide) (by decide)
      · skip
        subst hv125
        obtain ⟨h125, e125⟩ : ∃ z, T125.heap = z := ⟨_, rfl⟩
        rw [e125] at K125
        have Xo125 : Old Z n0 h125 := Xo124.keep K125 all0
        have KK125 : Keep h0 h125 [] := KK124.trans K125 all0
        have N125 := Fr.app N124 N125q
        refine own_to (V := T125.setTop (mkF m 52 #[.val (.int qa), .val (.int qb), .val (.int qc), .val (.int qn), .val (.int qw), .val (.int (2 : Int32)), .val (.int c121), .val (.int c122), .val (.int c123), .unset, .unset, .unset] [(.int (0 : Int32))])) ?_ st125
        refine own_to (V := T125.setTop (mkF m 105 #[.val (.int qa), .val (.int qb), .val (.int qc), .val (.int qn), .val (.int qw), .val (.int (2 : Int32)), .val (.int c121), .val (.int c122), .val (.int c123), .unset, .unset, .unset] [])) ?_ fun t k => (by
          refine XS.ifYes X125.here hx rfl (pc0 := 52) (pc' := 57) rfl (hb hby at_52) rfl ((if0 _ _).trans (teq ((by decide) : (0 : Int32) = (0 : Int32))).1) (by decide) (by decide) ?_
          refine XS.iload X125.here hx rfl (hb hby at_57) rfl ?_
          refine XS.iconst X125.here hx rfl (hb hby at_59) ?_
          refine XS.icmpYes X125.here hx rfl (pc0 := 60) (pc' := 73) rfl (hb hby at_60) rfl (tlt ((by decide) : (2 : Int32) < (3 : Int32))).1 (by decide) (by decide) ?_
          refine XS.iload X125.here hx rfl (hb hby at_73) rfl ?_
          refine XS.iconst X125.here hx rfl (hb hby at_75) ?_
          refine XS.icmpYes X125.here hx rfl (pc0 := 76) (pc' := 99) rfl (hb hby at_76) rfl (feq ((by decide) : ¬ ((2 : Int32) = (1 : Int32)))).2 (by decide) (by decide) ?_
          refine XS.iload X125.here hx rfl (hb hby at_99) rfl ?_
          refine XS.iconst X125.here hx rfl (hb hby at_101) ?_
          refine XS.icmpNo X125.here hx rfl (hb hby at_102) rfl (teq ((by decide) : (2 : Int32) = (2 : Int32))).2 ?_
          exact k)
        obtain ⟨T126, h126, X126, e126, E126, A126, D126, U126, st126⟩ := newO X125 hx hZ hown (hw _ (List.mem_of_getElem? (i := 6) rfl)) (hw _ (List.mem_of_getElem? (i := 7) rfl)) (hw _ (List.mem_of_getElem? (i := 8) rfl)) e125 (g := (mkF m 105 #[.val (.int qa), .val (.int qb), .val (.int qc), .val (.int qn), .val (.int qw), .val (.int (2 : Int32)), .val (.int c121), .val (.int c122), .val (.int c123), .unset, .unset, .unset] [])) rfl (hb hby at_105) (by decide) (by decide)
        obtain ⟨b126, g126⟩ : ∃ z, z = h125.size := ⟨_, rfl⟩
        rw [← g126] at A126 D126 U126 st126
        have Xo126 : Old Z n0 h126 := Xo125.ext E126
        have KK126 : Keep h0 h126 [] := KK125.ext E126
        have ge_b126 : n0 ≤ b126 := Nat.le_trans (own_ole Xo125) (Nat.le_of_eq g126.symm)
        have sz_b126 : h0.size ≤ b126 := Nat.le_trans KK125.1 (Nat.le_of_eq g126.symm)
        have Fi126_52 : Fld Z h126 b126 "java/lang/String" "coder" "B" (.int (0 : Int32)) := D126 (Or.inr (hw _ (List.mem_of_getElem? (i := 52) rfl))) (ty := .byte) (by decide)
        have Fi126_54 : Fld Z h126 b126 "java/lang/String" "value" "[B" .null := D126 (Or.inr (hw _ (List.mem_of_getElem? (i := 54) rfl))) (ty := (.array .byte)) (by decide)
        refine own_to (V := T126.setTop (mkF m 108 #[.val (.int qa), .val (.int qb), .val (.int qc), .val (.int qn), .val (.int qw), .val (.int (2 : Int32)), .val (.int c121), .val (.int c122), .val (.int c123), .unset, .unset, .unset] [(.ref b126)])) ?_ st126
        refine own_to (V := T126.setTop (mkF m 110 #[.val (.int qa), .val (.int qb), .val (.int qc), .val (.int qn), .val (.int qw), .val (.int (2 : Int32)), .val (.int c121), .val (.int c122), .val (.int c123), .unset, .unset, .unset] [(.int (2 : Int32)), (.ref b126), (.ref b126)])) ?_ fun t k => (by
          refine XS.dup X126.here hx rfl (hb hby at_108) rfl rfl ?_
          refine XS.iconst X126.here hx rfl (hb hby at_109) ?_
          exact k)
        obtain ⟨T127, h127, k127, X127, e127, E127, A127, st127⟩ := newP X126 hx hZ (hw _ (List.mem_of_getElem? (i := 9) rfl)) e126 (g := (mkF m 110 #[.val (.int qa), .val (.int qb), .val (.int qc), .val (.int qn), .val (.int qw), .val (.int (2 : Int32)), .val (.int c121), .val (.int c122), .val (.int c123), .unset, .unset, .unset] [(.int (2 : Int32)), (.ref b126), (.ref b126)])) rfl (hb hby at_110) rfl (by decide) (cap := 2) (by decide) (by decide) (by decide) (by decide)
        obtain ⟨b127, g127⟩ : ∃ z, z = h126.size := ⟨_, rfl⟩
        rw [← g127] at A127 st127
        have Xo127 : Old Z n0 h127 := Xo126.ext E127
        have KK127 : Keep h0 h127 [] := KK126.ext E127
        have ge_b127 : n0 ≤ b127 := Nat.le_trans (own_ole Xo126) (Nat.le_of_eq g127.symm)
        have sz_b127 : h0.size ≤ b127 := Nat.le_trans KK126.1 (Nat.le_of_eq g127.symm)
        have V127 : Arv Z h127 b127 k127 .char (2 : Int32) [(.int (0 : Int32)), (.int (0 : Int32))] (.int (0 : Int32)) := (Arv.new A127 (by decide)).pad (pad_rep [] (.int (0 : Int32)) 2)
        refine own_to (V := T127.setTop (mkF m 112 #[.val (.int qa), .val (.int qb), .val (.int qc), .val (.int qn), .val (.int qw), .val (.int (2 : Int32)), .val (.int c121), .val (.int c122), .val (.int c123), .unset, .unset, .unset] [(.ref b127), (.ref b126), (.ref b126)])) ?_ st127
        refine own_to (V := T127.setTop (mkF m 116 #[.val (.int qa), .val (.int qb), .val (.int qc), .val (.int qn), .val (.int qw), .val (.int (2 : Int32)), .val (.int c121), .val (.int c122), .val (.int c123), .unset, .unset, .unset] [(.int c121), (.int (0 : Int32)), (.ref b127), (.ref b127), (.ref b126), (.ref b126)])) ?_ fun t k => (by
          refine XS.dup X127.here hx rfl (hb hby at_112) rfl rfl ?_
          refine XS.iconst X127.here hx rfl (hb hby at_113) ?_
          refine XS.iload X127.here hx rfl (hb hby at_114) rfl ?_
          exact k)
        obtain ⟨cl128, Ar128, q128, S128, M128, H128, G128⟩ := id V127
        obtain ⟨T128, h128, X128, e128, W128, st128⟩ := stC X127 hx hZ e127 Ar128 (j := (0 : Int32)) (inb_of S128 ⟨by decide, by decide⟩) (g := (mkF m 116 #[.val (.int qa), .val (.int qb), .val (.int qc), .val (.int qn), .val (.int qw), .val (.int (2 : Int32)), .val (.int c121), .val (.int c122), .val (.int c123), .unset, .unset, .unset] [(.int c121), (.int (0 : Int32)), (.ref b127), (.ref b127), (.ref b126), (.ref b126)])) rfl rfl (hb hby at_116)
        rw [own_narC rc_c121] at W128
        have Xo128 : Old Z n0 h128 := Xo127.wr W128 ge_b127
        have KK128 : Keep h0 h128 [] := KK127.wr W128 (Or.inr sz_b127)
        have V128 : Arv Z h128 b127 k127 .char (2 : Int32) [(.int c121), (.int (0 : Int32))] (.int (0 : Int32)) := Arv.set Ar128 q128 S128 M128 H128 G128 (own_fitC rc_c121) W128 0 rfl (Nat.le_of_ble_eq_true rfl)
        have N128 := Fr.snoc X128 N125 ge_b127
        refine own_to (V := T128.setTop (mkF m 117 #[.val (.int qa), .val (.int qb), .val (.int qc), .val (.int qn), .val (.int qw), .val (.int (2 : Int32)), .val (.int c121), .val (.int c122), .val (.int c123), .unset, .unset, .unset] [(.ref b127), (.ref b126), (.ref b126)])) ?_ st128
        refine own_to (V := T128.setTop (mkF m 121 #[.val (.int qa), .val (.int qb), .val (.int qc), .val (.int qn), .val (.int qw), .val (.int (2 : Int32)), .val (.int c121), .val (.int c122), .val (.int c123), .unset, .unset, .unset] [(.int c122), (.int (1 : Int32)), (.ref b127), (.ref b127), (.ref b126), (.ref b126)])) ?_ fun t k => (by
          refine XS.dup X128.here hx rfl (hb hby at_117) rfl rfl ?_
          refine XS.iconst X128.here hx rfl (hb hby at_118) ?_
          refine XS.iload X128.here hx rfl (hb hby at_119) rfl ?_
          exact k)
        obtain ⟨cl129, Ar129, q129, S129, M129, H129, G129⟩ := id V128
        obtain ⟨T129, h129, X129, e129, W129, st129⟩ := stC X128 hx hZ e128 Ar129 (j := (1 : Int32)) (inb_of S129 ⟨by decide, by decide⟩) (g := (mkF m 121 #[.val (.int qa), .val (.int qb), .val (.int qc), .val (.int qn), .val (.int qw), .val (.int (2 : Int32)), .val (.int c121), .val (.int c122), .val (.int c123), .unset, .unset, .unset] [(.int c122), (.int (1 : Int32)), (.ref b127), (.ref b127), (.ref b126), (.ref b126)])) rfl rfl (hb hby at_121)
        rw [own_narC rc_c122] at W129
        have Xo129 : Old Z n0 h129 := Xo128.wr W129 ge_b127
        have KK129 : Keep h0 h129 [] := KK128.wr W129 (Or.inr sz_b127)
        have V129 : Arv Z h129 b127 k127 .char (2 : Int32) [(.int c121), (.int c122)] (.int (0 : Int32)) := Arv.set Ar129 q129 S129 M129 H129 G129 (own_fitC rc_c122) W129 1 rfl (Nat.le_of_ble_eq_true rfl)
        have N129 := Fr.snoc X129 N128 ge_b127
        refine own_to (V := T129.setTop (mkF m 122 #[.val (.int qa), .val (.int qb), .val (.int qc), .val (.int qn), .val (.int qw), .val (.int (2 : Int32)), .val (.int c121), .val (.int c122), .val (.int c123), .unset, .unset, .unset] [(.ref b127), (.ref b126), (.ref b126)])) ?_ st129
        have Fg131 : Arv Z h129 b127 k127 .char (Int32.ofNat ([c121, c122] : List Int32).length) (([c121, c122] : List Int32).map Value.int) (.int (0 : Int32)) := V129
        have F132 : Exa Z h129 b126 "java/lang/String" := (((A126.ext E127).wr W128).wr W129)
        have F133 : Fld Z h129 b126 "java/lang/String" "value" "[B" .null := (((Fi126_54.ext E127).other W128 (Or.inl (Nat.ne_of_lt (Nat.lt_of_lt_of_le A126.lt (Nat.le_of_eq g127.symm))))).other W129 (Or.inl (Nat.ne_of_lt (Nat.lt_of_lt_of_le A126.lt (Nat.le_of_eq g127.symm)))))
        have F134 : Fld Z h129 b126 "java/lang/String" "coder" "B" (.int (0 : Int32)) := (((Fi126_52.ext E127).other W128 (Or.inl (Nat.ne_of_lt (Nat.lt_of_lt_of_le A126.lt (Nat.le_of_eq g127.symm))))).other W129 (Or.inl (Nat.ne_of_lt (Nat.lt_of_lt_of_le A126.lt (Nat.le_of_eq g127.symm)))))
        obtain ⟨_, _, ⟨T130, L130, k130, n130⟩, -, X130, ⟨Lc130, hQ130, l130, y130, z130⟩, st130⟩ := X129.specialBack hx (y := (⟨"java/lang/String", "<init>", "([C)V"⟩ : MethodName)) rfl hown (mvT hZ (hw _ (List.mem_of_getElem? (i := 10) rfl))) (mvT hZ (hw _ (List.mem_of_getElem? (i := 11) rfl))) (mvT hZ (hw _ (List.mem_of_getElem? (i := 12) rfl))) (by decide) (backOf (W := 1) (own_rmsini l Z a0 hw hst [] b126 b127 k127 ([c121, c122] : List Int32) h129 n0 Xo129 F132 F133 F134 ge_b126 Fg131 (own_allS rc_c121 (own_allS rc_c122 own_all0)) (Nat.le_of_ble_eq_true rfl) (Nat.le_of_ble_eq_true rfl)) hZ (hw _ (List.mem_of_getElem? (i := 12) rfl)) (hw _ (List.mem_of_getElem? (i := 8) rfl)) (by decide) (by decide)) (g := (mkF m 122 #[.val (.int qa), .val (.int qb), .val (.int qc), .val (.int qn), .val (.int qw), .val (.int (2 : Int32)), .val (.int c121), .val (.int c122), .val (.int c123), .unset, .unset, .unset] [(.ref b127), (.ref b126), (.ref b126)])) rfl (by rw [hml]; rfl) (Steps.refl _) (a := b126) (argsL := [(.ref b127)]) (rest := [(.ref b126)]) (lenOf own_pd20 rfl) rfl (by show 2 * 0 + _ ≤ _; exact Nat.le_of_eq rfl) (hb hby at_122) (fun _ _ => ⟨rfl, e129, (by decide : 2 + 2 ≤ _), (by decide : 6 + 9 ≤ _)⟩)
        dsimp only [Pt.U, Pt.locs, Pt.cells, Pt.slots] at X130 l130 y130 z130 st130 hQ130
        subst l130 y130 z130
        obtain ⟨ou130, hv130, N130q, K130, g130_0, g130_1, g130_2⟩ := hQ130
        subst hv130
        obtain ⟨h130, e130⟩ : ∃ z, T130.heap = z := ⟨_, rfl⟩
        rw [e130] at K130 g130_2
        have Xo130 : Old Z n0 h130 := Xo129.keep K130 (allS ge_b126 all0)
        have KK130 : Keep h0 h130 [] := KK129.trans K130 (allS (Or.inr sz_b126) all0)
        have N130 := Fr.app N129 N130q
        have ge_ou130 : n0 ≤ ou130 := Nat.le_trans (own_ole Xo129) g130_0
        have sz_ou130 : h0.size ≤ ou130 := Nat.le_trans KK129.1 g130_0
        refine own_to (V := T130.setTop (mkF m 125 #[.val (.int qa), .val (.int qb), .val (.int qc), .val (.int qn), .val (.int qw), .val (.int (2 : Int32)), .val (.int c121), .val (.int c122), .val (.int c123), .unset, .unset, .unset] [(.ref b126)])) ?_ (fun t k => st130.trans k)
        obtain ⟨c135, hc135⟩ : ∃ z : Int32, z = ((qw &&& (255 : Int32)).toUInt32.toUInt16.toUInt32.toInt32) := ⟨_, rfl⟩
        have rc_c135 : ¬ c135 < 0 ∧ ¬ (65535 : Int32) < c135 := by rw [hc135]; exact own_i2c_rng _
        have rb_c135 : ¬ c135 < 0 ∧ ¬ (255 : Int32) < c135 := by rw [hc135]; exact own_and255 _
        refine own_to (V := T130.setTop (mkF m 164 #[.val (.int qa), .val (.int qb), .val (.int qc), .val (.int qn), .val (.int qw), .val (.int (2 : Int32)), .val (.int c121), .val (.int c122), .val (.int c123), .val (.ref b126), .unset, .unset] [(.int c135)])) ?_ fun t k => (by
          first | rw [hc135] at k | skip
          refine XS.astore X130.here hx rfl (hb hby at_125) rfl rfl (l' := #[.val (.int qa), .val (.int qb), .val (.int qc), .val (.int qn), .val (.int qw), .val (.int (2 : Int32)), .val (.int c121), .val (.int c122), .val (.int c123), .val (.ref b126), .unset, .unset]) rfl ?_
          refine XS.goto X130.here hx rfl (pc0 := 127) (pc' := 157) rfl (hb hby at_127) (by decide) (by decide) ?_
          refine XS.iload X130.here hx rfl (hb hby at_157) rfl ?_
          refine XS.sipush X130.here hx rfl (hb hby at_159) ?_
          refine XS.iand X130.here hx rfl (hb hby at_162) rfl ?_
          refine XS.i2c X130.here hx rfl (hb hby at_163) rfl ?_
          exact k)
        obtain ⟨_, _, ⟨T136, L136, k136, n136⟩, -, X136, ⟨Lc136, hQ136, l136, y136, z136⟩, st136⟩ := Jvm.LawKit.callS X130 hx (y := (⟨"java/lang/String", "valueOf", "(C)Ljava/lang/String;"⟩ : MethodName)) hown (mvT hZ (hw _ (List.mem_of_getElem? (i := 55) rfl))) (mvT hZ (hw _ (List.mem_of_getElem? (i := 56) rfl))) (mvT hZ (hw _ (List.mem_of_getElem? (i := 8) rfl))) (mvT hZ (hw _ (List.mem_of_getElem? (i := 57) rfl))) (by decide) (backOf (W := 0) (own_rmsval l Z a0 hw hst [] c135 h130 n0 Xo130 rb_c135) hZ (hw _ (List.mem_of_getElem? (i := 57) rfl)) (hw _ (List.mem_of_getElem? (i := 8) rfl)) (by decide) (by decide)) (g := (mkF m 164 #[.val (.int qa), .val (.int qb), .val (.int qc), .val (.int qn), .val (.int qw), .val (.int (2 : Int32)), .val (.int c121), .val (.int c122), .val (.int c123), .val (.ref b126), .unset, .unset] [(.int c135)])) rfl (by rw [hml]; rfl) (argsL := [(.int c135)]) (rest := []) (lenOf own_pd21 rfl) rfl (by show 2 * 0 + _ ≤ _; exact Nat.le_of_eq rfl) (hb hby at_164) (fun _ _ => ⟨rfl, e130, (by decide : 4 + 2 ≤ _), (by decide : 15 + 5 ≤ _)⟩)
        dsimp only [Pt.U, Pt.locs, Pt.cells, Pt.slots] at X136 l136 y136 z136 st136 hQ136
        subst l136 y136 z136
        obtain ⟨oa136, ou136, hv136, N136q, K136, g136_0, g136_1, g136_2, g136_3⟩ := hQ136
        subst hv136
        obtain ⟨h136, e136⟩ : ∃ z, T136.heap = z := ⟨_, rfl⟩
        rw [e136] at K136 g136_3
        have Xo136 : Old Z n0 h136 := Xo130.keep K136 all0
        have KK136 : Keep h0 h136 [] := KK130.trans K136 all0
        have N136 := Fr.app N130 N136q
        have ge_oa136 : n0 ≤ oa136 := Nat.le_trans (own_ole Xo130) g136_0
        have sz_oa136 : h0.size ≤ oa136 := Nat.le_trans KK130.1 g136_0
        have ge_ou136 : n0 ≤ ou136 := Nat.le_trans (own_ole Xo130) g136_1
        have sz_ou136 : h0.size ≤ ou136 := Nat.le_trans KK130.1 g136_1
        refine own_to (V := T136.setTop (mkF m 167 #[.val (.int qa), .val (.int qb), .val (.int qc), .val (.int qn), .val (.int qw), .val (.int (2 : Int32)), .val (.int c121), .val (.int c122), .val (.int c123), .val (.ref b126), .unset, .unset] [(.ref oa136)])) ?_ st136
        refine own_to (V := T136.setTop (mkF m 173 #[.val (.int qa), .val (.int qb), .val (.int qc), .val (.int qn), .val (.int qw), .val (.int (2 : Int32)), .val (.int c121), .val (.int c122), .val (.int c123), .val (.ref b126), .val (.ref oa136), .unset] [(.ref oa136), (.ref b126)])) ?_ fun t k => (by
          refine XS.astore X136.here hx rfl (hb hby at_167) rfl rfl (l' := #[.val (.int qa), .val (.int qb), .val (.int qc), .val (.int qn), .val (.int qw), .val (.int (2 : Int32)), .val (.int c121), .val (.int c122), .val (.int c123), .val (.ref b126), .val (.ref oa136), .unset]) rfl ?_
          refine XS.aload X136.here hx rfl (hb hby at_169) rfl rfl ?_
          refine XS.aload X136.here hx rfl (hb hby at_171) rfl rfl ?_
          exact k)
        have F138 : own_Str Z h136 b126 ou130 ([c121, c122] : List Int32) := (g130_2.keep K136 List.not_mem_nil List.not_mem_nil)
        obtain ⟨_, _, ⟨T137, L137, k137, n137⟩, -, X137, ⟨Lc137, hQ137, l137, y137, z137⟩, st137⟩ := Jvm.LawKit.callS X136 hx (y := (⟨"com/example/turnwise/turnwise/input/Ids", "check", "(Ljava/lang/String;Ljava/lang/String;)Ljava/lang/String;"⟩ : MethodName)) hown (mvT hZ (hw _ (List.mem_of_getElem? (i := 69) rfl))) (mvT hZ (hw _ (List.mem_of_getElem? (i := 70) rfl))) (mvT hZ (hw _ (List.mem_of_getElem? (i := 71) rfl))) (mvT hZ (hw _ (List.mem_of_getElem? (i := 72) rfl))) (by decide) (backOf (W := 0) (own_rmchk2 l Z a0 hw hst [] b126 ou130 oa136 c121 c122 h136 n0 Xo136 F138 rc_c121 rc_c122 g124_0 g125_0) hZ (hw _ (List.mem_of_getElem? (i := 72) rfl)) (hw _ (List.mem_of_getElem? (i := 71) rfl)) (by decide) (by decide)) (g := (mkF m 173 #[.val (.int qa), .val (.int qb), .val (.int qc), .val (.int qn), .val (.int qw), .val (.int (2 : Int32)), .val (.int c121), .val (.int c122), .val (.int c123), .val (.ref b126), .val (.ref oa136), .unset] [(.ref oa136), (.ref b126)])) rfl (by rw [hml]; rfl) (argsL := [(.ref b126), (.ref oa136)]) (rest := []) (lenOf own_pd22 rfl) rfl (by show 2 * 0 + _ ≤ _; exact Nat.le_of_eq rfl) (hb hby at_173) (fun _ _ => ⟨rfl, e136, (by decide : 6 + 0 ≤ _), (by decide : 20 + 0 ≤ _)⟩)
        dsimp only [Pt.U, Pt.locs, Pt.cells, Pt.slots] at X137 l137 y137 z137 st137 hQ137
        subst l137 y137 z137
        obtain ⟨hv137, N137q, K137⟩ := hQ137
        subst hv137
        obtain ⟨h137, e137⟩ : ∃ z, T137.heap = z := ⟨_, rfl⟩
        rw [e137] at K137
        have Xo137 : Old Z n0 h137 := Xo136.keep K137 all0
        have KK137 : Keep h0 h137 [] := KK136.trans K137 all0
        have N137 := Fr.app N136 N137q
        refine own_to (V := T137.setTop (mkF m 176 #[.val (.int qa), .val (.int qb), .val (.int qc), .val (.int qn), .val (.int qw), .val (.int (2 : Int32)), .val (.int c121), .val (.int c122), .val (.int c123), .val (.ref b126), .val (.ref oa136), .unset] [(.ref b126)])) ?_ st137
        refine own_to (V := T137.setTop (mkF m 182 #[.val (.int qa), .val (.int qb), .val (.int qc), .val (.int qn), .val (.int qw), .val (.int (2 : Int32)), .val (.int c121), .val (.int c122), .val (.int c123), .val (.ref b126), .val (.ref oa136), .val (.ref b126)] [(.ref b126), (.ref b126)])) ?_ fun t k => (by
          refine XS.astore X137.here hx rfl (hb hby at_176) rfl rfl (l' := #[.val (.int qa), .val (.int qb), .val (.int qc), .val (.int qn), .val (.int qw), .val (.int (2 : Int32)), .val (.int c121), .val (.int c122), .val (.int c123), .val (.ref b126), .val (.ref oa136), .val (.ref b126)]) rfl ?_
          refine XS.aload X137.here hx rfl (hb hby at_178) rfl rfl ?_
          refine XS.aload X137.here hx rfl (hb hby at_180) rfl rfl ?_
          exact k)
        refine own_to (V := T137.setTop (mkF m 190 #[.val (.int qa), .val (.int qb), .val (.int qc), .val (.int qn), .val (.int qw), .val (.int (2 : Int32)), .val (.int c121), .val (.int c122), .val (.int c123), .val (.ref b126), .val (.ref oa136), .val (.ref b126)] [(.int (1 : Int32))])) ?_ fun t k => (by
          refine Jvm.RoadKit.acmp (g := (mkF m 182 #[.val (.int qa), .val (.int qb), .val (.int qc), .val (.int qn), .val (.int qw), .val (.int (2 : Int32)), .val (.int c121), .val (.int c122), .val (.int c123), .val (.ref b126), .val (.ref oa136), .val (.ref b126)] [(.ref b126), (.ref b126)])) X137 hx rfl rfl rfl (pc0 := 182) (pc' := 185) (same := true) rfl (hb hby at_182) rfl (decide_eq_true rfl) (by decide) (by decide) ?_
          refine XS.iconst X137.here hx rfl (hb hby at_185) ?_
          refine XS.goto X137.here hx rfl (pc0 := 186) (pc' := 190) rfl (hb hby at_186) (by decide) (by decide) ?_
          exact k)
        exact own_retN X137 hx (t := .boolean) (w := (1 : Int32)) hret (by decide) rfl hlk (hb hby at_190) (by rw [e137]; exact (⟨rfl, N137, KK137⟩)) (by decide) (by decide)
  · skip
    subst hcv104_2
    refine own_to (V := s₁.setTop (mkF m 11 #[.val (.int qa), .val (.int qb), .val (.int qc), .val (.int qn), .val (.int qw), .val (.int (3 : Int32)), .unset, .unset, .unset, .unset, .unset, .unset] [(.int qa)])) ?_ fun t k => (by
      refine XS.iloadN X0.here hx rfl (hb hby at_10) rfl ?_
      exact k)
    refine own_to (V := s₁.setTop (mkF m 13 #[.val (.int qa), .val (.int qb), .val (.int qc), .val (.int qn), .val (.int qw), .val (.int (3 : Int32)), .unset, .unset, .unset, .unset, .unset, .unset] [(.int (65535 : Int32)), (.int qa)])) ?_ (fun t k => X0.ldcInt hx hown (mvT hZ (hw _ (List.mem_of_getElem? (i := 1) rfl))) (g := (mkF m 11 #[.val (.int qa), .val (.int qb), .val (.int qc), .val (.int qn), .val (.int qw), .val (.int (3 : Int32)), .unset, .unset, .unset, .unset, .unset, .unset] [(.int qa)])) rfl (hb hby at_11) t k)
    obtain ⟨c139, hc139⟩ : ∃ z : Int32, z = ((qa &&& (65535 : Int32)).toUInt32.toUInt16.toUInt32.toInt32) := ⟨_, rfl⟩
    have rc_c139 : ¬ c139 < 0 ∧ ¬ (65535 : Int32) < c139 := by rw [hc139]; exact own_i2c_rng _
    refine own_to (V := s₁.setTop (mkF m 15 #[.val (.int qa), .val (.int qb), .val (.int qc), .val (.int qn), .val (.int qw), .val (.int (3 : Int32)), .unset, .unset, .unset, .unset, .unset, .unset] [(.int c139)])) ?_ fun t k => (by
      first | rw [hc139] at k | skip
      refine XS.iand X0.here hx rfl (hb hby at_13) rfl ?_
      refine XS.i2c X0.here hx rfl (hb hby at_14) rfl ?_
      exact k)
    refine own_to (V := s₁.setTop (mkF m 18 #[.val (.int qa), .val (.int qb), .val (.int qc), .val (.int qn), .val (.int qw), .val (.int (3 : Int32)), .val (.int c139), .unset, .unset, .unset, .unset, .unset] [(.int qb)])) ?_ fun t k => (by
      refine XS.istore X0.here hx rfl (hb hby at_15) rfl (l' := #[.val (.int qa), .val (.int qb), .val (.int qc), .val (.int qn), .val (.int qw), .val (.int (3 : Int32)), .val (.int c139), .unset, .unset, .unset, .unset, .unset]) rfl ?_
      refine XS.iloadN X0.here hx rfl (hb hby at_17) rfl ?_
      exact k)
    refine own_to (V := s₁.setTop (mkF m 20 #[.val (.int qa), .val (.int qb), .val (.int qc), .val (.int qn), .val (.int qw), .val (.int (3 : Int32)), .val (.int c139), .unset, .unset, .unset, .unset, .unset] [(.int (65535 : Int32)), (.int qb)])) ?_ (fun t k => X0.ldcInt hx hown (mvT hZ (hw _ (List.mem_of_getElem? (i := 1) rfl))) (g := (mkF m 18 #[.val (.int qa), .val (.int qb), .val (.int qc), .val (.int qn), .val (.int qw), .val (.int (3 : Int32)), .val (.int c139), .unset, .unset, .unset, .unset, .unset] [(.int qb)])) rfl (hb hby at_18) t k)
    obtain ⟨c140, hc140⟩ : ∃ z : Int32, z = ((qb &&& (65535 : Int32)).toUInt32.toUInt16.toUInt32.toInt32) := ⟨_, rfl⟩
    have rc_c140 : ¬ c140 < 0 ∧ ¬ (65535 : Int32) < c140 := by rw [hc140]; exact own_i2c_rng _
    refine own_to (V := s₁.setTop (mkF m 22 #[.val (.int qa), .val (.int qb), .val (.int qc), .val (.int qn), .val (.int qw), .val (.int (3 : Int32)), .val (.int c139), .unset, .unset, .unset, .unset, .unset] [(.int c140)])) ?_ fun t k => (by
      first | rw [hc140] at k | skip
      refine XS.iand X0.here hx rfl (hb hby at_20) rfl ?_
      refine XS.i2c X0.here hx rfl (hb hby at_21) rfl ?_
      exact k)
    refine own_to (V := s₁.setTop (mkF m 25 #[.val (.int qa), .val (.int qb), .val (.int qc), .val (.int qn), .val (.int qw), .val (.int (3 : Int32)), .val (.int c139), .val (.int c140), .unset, .unset, .unset, .unset] [(.int qc)])) ?_ fun t k => (by
      refine XS.istore X0.here hx rfl (hb hby at_22) rfl (l' := #[.val (.int qa), .val (.int qb), .val (.int qc), .val (.int qn), .val (.int qw), .val (.int (3 : Int32)), .val (.int c139), .val (.int c140), .unset, .unset, .unset, .unset]) rfl ?_
      refine XS.iloadN X0.here hx rfl (hb hby at_24) rfl ?_
      exact k)
    refine own_to (V := s₁.setTop (mkF m 27 #[.val (.int qa), .val (.int qb), .val (.int qc), .val (.int qn), .val (.int qw), .val (.int (3 : Int32)), .val (.int c139), .val (.int c140), .unset, .unset, .unset, .unset] [(.int (65535 : Int32)), (.int qc)])) ?_ (fun t k => X0.ldcInt hx hown (mvT hZ (hw _ (List.mem_of_getElem? (i := 1) rfl))) (g := (mkF m 25 #[.val (.int qa), .val (.int qb), .val (.int qc), .val (.int qn), .val (.int qw), .val (.int (3 : Int32)), .val (.int c139), .val (.int c140), .unset, .unset, .unset, .unset] [(.int qc)])) rfl (hb hby at_25) t k)
    obtain ⟨c141, hc141⟩ : ∃ z : Int32, z = ((qc &&& (65535 : Int32)).toUInt32.toUInt16.toUInt32.toInt32) := ⟨_, rfl⟩
    have rc_c141 : ¬ c141 < 0 ∧ ¬ (65535 : Int32) < c141 := by rw [hc141]; exact own_i2c_rng _
    refine own_to (V := s₁.setTop (mkF m 29 #[.val (.int qa), .val (.int qb), .val (.int qc), .val (.int qn), .val (.int qw), .val (.int (3 : Int32)), .val (.int c139), .val (.int c140), .unset, .unset, .unset, .unset] [(.int c141)])) ?_ fun t k => (by
      first | rw [hc141] at k | skip
      refine XS.iand X0.here hx rfl (hb hby at_27) rfl ?_
      refine XS.i2c X0.here hx rfl (hb hby at_28) rfl ?_
      exact k)
    refine own_to (V := s₁.setTop (mkF m 33 #[.val (.int qa), .val (.int qb), .val (.int qc), .val (.int qn), .val (.int qw), .val (.int (3 : Int32)), .val (.int c139), .val (.int c140), .val (.int c141), .unset, .unset, .unset] [(.int c139)])) ?_ fun t k => (by
      refine XS.istore X0.here hx rfl (hb hby at_29) rfl (l' := #[.val (.int qa), .val (.int qb), .val (.int qc), .val (.int qn), .val (.int qw), .val (.int (3 : Int32)), .val (.int c139), .val (.int c140), .val (.int c141), .unset, .unset, .unset]) rfl ?_
      refine XS.iload X0.here hx rfl (hb hby at_31) rfl ?_
      exact k)
    obtain ⟨_, _, ⟨T142, L142, k142, n142⟩, -, X142, ⟨Lc142, hQ142, l142, y142, z142⟩, st142⟩ := Jvm.LawKit.callS X0 hx (y := (⟨"com/example/turnwise/turnwise/input/IdsCheckPinLaw", "control", "(C)Z"⟩ : MethodName)) hown (mvT hZ (hw _ (List.mem_of_getElem? (i := 2) rfl))) (mvT hZ (hw _ (List.mem_of_getElem? (i := 3) rfl))) (mvT hZ (hw _ (List.mem_of_getElem? (i := 4) rfl))) (mvT hZ (hw _ (List.mem_of_getElem? (i := 5) rfl))) (by decide) (backOf (W := 0) (own_rmctl l Z a0 hw hst [] c139 h0 n0 X00 ) hZ (hw _ (List.mem_of_getElem? (i := 5) rfl)) (hw _ (List.mem_of_getElem? (i := 4) rfl)) (by decide) (by decide)) (g := (mkF m 33 #[.val (.int qa), .val (.int qb), .val (.int qc), .val (.int qn), .val (.int qw), .val (.int (3 : Int32)), .val (.int c139), .val (.int c140), .val (.int c141), .unset, .unset, .unset] [(.int c139)])) rfl (by rw [hml]; rfl) (argsL := [(.int c139)]) (rest := []) (lenOf own_pd13 rfl) rfl (by show 2 * 0 + _ ≤ _; exact Nat.le_of_eq rfl) (hb hby at_33) (fun _ _ => ⟨rfl, e0, (by decide : 0 + 0 ≤ _), (by decide : 0 + 0 ≤ _)⟩)
    dsimp only [Pt.U, Pt.locs, Pt.cells, Pt.slots] at X142 l142 y142 z142 st142 hQ142
    subst l142 y142 z142
    rcases hQ142 with ⟨hv142, N142q, K142, g142_0⟩ | ⟨hv142, N142q, K142, g142_0⟩
    · skip
      subst hv142
      obtain ⟨h142, e142⟩ : ∃ z, T142.heap = z := ⟨_, rfl⟩
      rw [e142] at K142
      have Xo142 : Old Z n0 h142 := X00.keep K142 all0
      have KK142 : Keep h0 h142 [] := KK0.trans K142 all0
      have N142 := Fr.app N0 N142q
      refine own_to (V := T142.setTop (mkF m 36 #[.val (.int qa), .val (.int qb), .val (.int qc), .val (.int qn), .val (.int qw), .val (.int (3 : Int32)), .val (.int c139), .val (.int c140), .val (.int c141), .unset, .unset, .unset] [(.int (1 : Int32))])) ?_ st142
      refine own_to (V := T142.setTop (mkF m 40 #[.val (.int qa), .val (.int qb), .val (.int qc), .val (.int qn), .val (.int qw), .val (.int (3 : Int32)), .val (.int c139), .val (.int c140), .val (.int c141), .unset, .unset, .unset] [(.int (1 : Int32))])) ?_ fun t k => (by
        refine XS.ifNo X142.here hx rfl (hb hby at_36) rfl ((if0 _ _).trans (feq ((by decide) : ¬ ((1 : Int32) = (0 : Int32)))).1) ?_
        refine XS.iconst X142.here hx rfl (hb hby at_39) ?_
        exact k)
      exact own_retN X142 hx (t := .boolean) (w := (1 : Int32)) hret (by decide) rfl hlk (hb hby at_40) (by rw [e142]; exact (⟨rfl, N142, KK142⟩)) (by decide) (by decide)
    · skip
      subst hv142
      obtain ⟨h142, e142⟩ : ∃ z, T142.heap = z := ⟨_, rfl⟩
      rw [e142] at K142
      have Xo142 : Old Z n0 h142 := X00.keep K142 all0
      have KK142 : Keep h0 h142 [] := KK0.trans K142 all0
      have N142 := Fr.app N0 N142q
      refine own_to (V := T142.setTop (mkF m 36 #[.val (.int qa), .val (.int qb), .val (.int qc), .val (.int qn), .val (.int qw), .val (.int (3 : Int32)), .val (.int c139), .val (.int c140), .val (.int c141), .unset, .unset, .unset] [(.int (0 : Int32))])) ?_ st142
      refine own_to (V := T142.setTop (mkF m 49 #[.val (.int qa), .val (.int qb), .val (.int qc), .val (.int qn), .val (.int qw), .val (.int (3 : Int32)), .val (.int c139), .val (.int c140), .val (.int c141), .unset, .unset, .unset] [(.int c140)])) ?_ fun t k => (by
        refine XS.ifYes X142.here hx rfl (pc0 := 36) (pc' := 41) rfl (hb hby at_36) rfl ((if0 _ _).trans (teq ((by decide) : (0 : Int32) = (0 : Int32))).1) (by decide) (by decide) ?_
        refine XS.iload X142.here hx rfl (hb hby at_41) rfl ?_
        refine XS.iconst X142.here hx rfl (hb hby at_43) ?_
        refine XS.icmpNo X142.here hx rfl (hb hby at_44) rfl (flt ((by decide) : ¬ ((3 : Int32) < (2 : Int32)))).1 ?_
        refine XS.iload X142.here hx rfl (hb hby at_47) rfl ?_
        exact k)
      obtain ⟨_, _, ⟨T143, L143, k143, n143⟩, -, X143, ⟨Lc143, hQ143, l143, y143, z143⟩, st143⟩ := Jvm.LawKit.callS X142 hx (y := (⟨"com/example/turnwise/turnwise/input/IdsCheckPinLaw", "control", "(C)Z"⟩ : MethodName)) hown (mvT hZ (hw _ (List.mem_of_getElem? (i := 2) rfl))) (mvT hZ (hw _ (List.mem_of_getElem? (i := 3) rfl))) (mvT hZ (hw _ (List.mem_of_getElem? (i := 4) rfl))) (mvT hZ (hw _ (List.mem_of_getElem? (i := 5) rfl))) (by decide) (backOf (W := 0) (own_rmctl l Z a0 hw hst [] c140 h142 n0 Xo142 ) hZ (hw _ (List.mem_of_getElem? (i := 5) rfl)) (hw _ (List.mem_of_getElem? (i := 4) rfl)) (by decide) (by decide)) (g := (mkF m 49 #[.val (.int qa), .val (.int qb), .val (.int qc), .val (.int qn), .val (.int qw), .val (.int (3 : Int32)), .val (.int c139), .val (.int c140), .val (.int c141), .unset, .unset, .unset] [(.int c140)])) rfl (by rw [hml]; rfl) (argsL := [(.int c140)]) (rest := []) (lenOf own_pd13 rfl) rfl (by show 2 * 0 + _ ≤ _; exact Nat.le_of_eq rfl) (hb hby at_49) (fun _ _ => ⟨rfl, e142, (by decide : 0 + 0 ≤ _), (by decide : 0 + 0 ≤ _)⟩)
      dsimp only [Pt.U, Pt.locs, Pt.cells, Pt.slots] at X143 l143 y143 z143 st143 hQ143
      subst l143 y143 z143
      rcases hQ143 with ⟨hv143, N143q, K143, g143_0⟩ | ⟨hv143, N143q, K143, g143_0⟩
      · skip
        subst hv143
        obtain ⟨h143, e143⟩ : ∃ z, T143.heap = z := ⟨_, rfl⟩
        rw [e143] at K143
        have Xo143 : Old Z n0 h143 := Xo142.keep K143 all0
        have KK143 : Keep h0 h143 [] := KK142.trans K143 all0
        have N143 := Fr.app N142 N143q
        refine own_to (V := T143.setTop (mkF m 52 #[.val (.int qa), .val (.int qb), .val (.int qc), .val (.int qn), .val (.int qw), .val (.int (3 : Int32)), .val (.int c139), .val (.int c140), .val (.int c141), .unset, .unset, .unset] [(.int (1 : Int32))])) ?_ st143
        refine own_to (V := T143.setTop (mkF m 56 #[.val (.int qa), .val (.int qb), .val (.int qc), .val (.int qn), .val (.int qw), .val (.int (3 : Int32)), .val (.int c139), .val (.int c140), .val (.int c141), .unset, .unset, .unset] [(.int (1 : Int32))])) ?_ fun t k => (by
          refine XS.ifNo X143.here hx rfl (hb hby at_52) rfl ((if0 _ _).trans (feq ((by decide) : ¬ ((1 : Int32) = (0 : Int32)))).1) ?_
          refine XS.iconst X143.here hx rfl (hb hby at_55) ?_
          exact k)
        exact own_retN X143 hx (t := .boolean) (w := (1 : Int32)) hret (by decide) rfl hlk (hb hby at_56) (by rw [e143]; exact (⟨rfl, N143, KK143⟩)) (by decide) (by decide)
      · skip
        subst hv143
        obtain ⟨h143, e143⟩ : ∃ z, T143.heap = z := ⟨_, rfl⟩
        rw [e143] at K143
        have Xo143 : Old Z n0 h143 := Xo142.keep K143 all0
        have KK143 : Keep h0 h143 [] := KK142.trans K143 all0
        have N143 := Fr.app N142 N143q
        refine own_to (V := T143.setTop (mkF m 52 #[.val (.int qa), .val (.int qb), .val (.int qc), .val (.int qn), .val (.int qw), .val (.int (3 : Int32)), .val (.int c139), .val (.int c140), .val (.int c141), .unset, .unset, .unset] [(.int (0 : Int32))])) ?_ st143
        refine own_to (V := T143.setTop (mkF m 65 #[.val (.int qa), .val (.int qb), .val (.int qc), .val (.int qn), .val (.int qw), .val (.int (3 : Int32)), .val (.int c139), .val (.int c140), .val (.int c141), .unset, .unset, .unset] [(.int c141)])) ?_ fun t k => (by
          refine XS.ifYes X143.here hx rfl (pc0 := 52) (pc' := 57) rfl (hb hby at_52) rfl ((if0 _ _).trans (teq ((by decide) : (0 : Int32) = (0 : Int32))).1) (by decide) (by decide) ?_
          refine XS.iload X143.here hx rfl (hb hby at_57) rfl ?_
          refine XS.iconst X143.here hx rfl (hb hby at_59) ?_
          refine XS.icmpNo X143.here hx rfl (hb hby at_60) rfl (flt ((by decide) : ¬ ((3 : Int32) < (3 : Int32)))).1 ?_
          refine XS.iload X143.here hx rfl (hb hby at_63) rfl ?_
          exact k)
        obtain ⟨_, _, ⟨T144, L144, k144, n144⟩, -, X144, ⟨Lc144, hQ144, l144, y144, z144⟩, st144⟩ := Jvm.LawKit.callS X143 hx (y := (⟨"com/example/turnwise/turnwise/input/IdsCheckPinLaw", "control", "(C)Z"⟩ : MethodName)) hown (mvT hZ (hw _ (List.mem_of_getElem? (i := 2) rfl))) (mvT hZ (hw _ (List.mem_of_getElem? (i := 3) rfl))) (mvT hZ (hw _ (List.mem_of_getElem? (i := 4) rfl))) (mvT hZ (hw _ (List.mem_of_getElem? (i := 5) rfl))) (by decide) (backOf (W := 0) (own_rmctl l Z a0 hw hst [] c141 h143 n0 Xo143 ) hZ (hw _ (List.mem_of_getElem? (i := 5) rfl)) (hw _ (List.mem_of_getElem? (i := 4) rfl)) (by decide) (by decide)) (g := (mkF m 65 #[.val (.int qa), .val (.int qb), .val (.int qc), .val (.int qn), .val (.int qw), .val (.int (3 : Int32)), .val (.int c139), .val (.int c140), .val (.int c141), .unset, .unset, .unset] [(.int c141)])) rfl (by rw [hml]; rfl) (argsL := [(.int c141)]) (rest := []) (lenOf own_pd13 rfl) rfl (by show 2 * 0 + _ ≤ _; exact Nat.le_of_eq rfl) (hb hby at_65) (fun _ _ => ⟨rfl, e143, (by decide : 0 + 0 ≤ _), (by decide : 0 + 0 ≤ _)⟩)
        dsimp only [Pt.U, Pt.locs, Pt.cells, Pt.slots] at X144 l144 y144 z144 st144 hQ144
        subst l144 y144 z144
        rcases hQ144 with ⟨hv144, N144q, K144, g144_0⟩ | ⟨hv144, N144q, K144, g144_0⟩
        · skip
          subst hv144
          obtain ⟨h144, e144⟩ : ∃ z, T144.heap = z := ⟨_, rfl⟩
          rw [e144] at K144
          have Xo144 : Old Z n0 h144 := Xo143.keep K144 all0
          have KK144 : Keep h0 h144 [] := KK143.trans K144 all0
          have N144 := Fr.app N143 N144q
          refine own_to (V := T144.setTop (mkF m 68 #[.val (.int qa), .val (.int qb), .val (.int qc), .val (.int qn), .val (.int qw), .val (.int (3 : Int32)), .val (.int c139), .val (.int c140), .val (.int c141), .unset, .unset, .unset] [(.int (1 : Int32))])) ?_ st144
          refine own_to (V := T144.setTop (mkF m 72 #[.val (.int qa), .val (.int qb), .val (.int qc), .val (.int qn), .val (.int qw), .val (.int (3 : Int32)), .val (.int c139), .val (.int c140), .val (.int c141), .unset, .unset, .unset] [(.int (1 : Int32))])) ?_ fun t k => (by
            refine XS.ifNo X144.here hx rfl (hb hby at_68) rfl ((if0 _ _).trans (feq ((by decide) : ¬ ((1 : Int32) = (0 : Int32)))).1) ?_
            refine XS.iconst X144.here hx rfl (hb hby at_71) ?_
            exact k)
          exact own_retN X144 hx (t := .boolean) (w := (1 : Int32)) hret (by decide) rfl hlk (hb hby at_72) (by rw [e144]; exact (⟨rfl, N144, KK144⟩)) (by decide) (by decide)
        · skip
          subst hv144
          obtain ⟨h144, e144⟩ : ∃ z, T144.heap = z := ⟨_, rfl⟩
          rw [e144] at K144
          have Xo144 : Old Z n0 h144 := Xo143.keep K144 all0
          have KK144 : Keep h0 h144 [] := KK143.trans K144 all0
          have N144 := Fr.app N143 N144q
          refine own_to (V := T144.setTop (mkF m 68 #[.val (.int qa), .val (.int qb), .val (.int qc), .val (.int qn), .val (.int qw), .val (.int (3 : Int32)), .val (.int c139), .val (.int c140), .val (.int c141), .unset, .unset, .unset] [(.int (0 : Int32))])) ?_ st144
          refine own_to (V := T144.setTop (mkF m 130 #[.val (.int qa), .val (.int qb), .val (.int qc), .val (.int qn), .val (.int qw), .val (.int (3 : Int32)), .val (.int c139), .val (.int c140), .val (.int c141), .unset, .unset, .unset] [])) ?_ fun t k => (by
            refine XS.ifYes X144.here hx rfl (pc0 := 68) (pc' := 73) rfl (hb hby at_68) rfl ((if0 _ _).trans (teq ((by decide) : (0 : Int32) = (0 : Int32))).1) (by decide) (by decide) ?_
            refine XS.iload X144.here hx rfl (hb hby at_73) rfl ?_
            refine XS.iconst X144.here hx rfl (hb hby at_75) ?_
            refine XS.icmpYes X144.here hx rfl (pc0 := 76) (pc' := 99) rfl (hb hby at_76) rfl (feq ((by decide) : ¬ ((3 : Int32) = (1 : Int32)))).2 (by decide) (by decide) ?_
            refine XS.iload X144.here hx rfl (hb hby at_99) rfl ?_
            refine XS.iconst X144.here hx rfl (hb hby at_101) ?_
            refine XS.icmpYes X144.here hx rfl (pc0 := 102) (pc' := 130) rfl (hb hby at_102) rfl (feq ((by decide) : ¬ ((3 : Int32) = (2 : Int32)))).2 (by decide) (by decide) ?_
            exact k)
          obtain ⟨T145, h145, X145, e145, E145, A145, D145, U145, st145⟩ := newO X144 hx hZ hown (hw _ (List.mem_of_getElem? (i := 6) rfl)) (hw _ (List.mem_of_getElem? (i := 7) rfl)) (hw _ (List.mem_of_getElem? (i := 8) rfl)) e144 (g := (mkF m 130 #[.val (.int qa), .val (.int qb), .val (.int qc), .val (.int qn), .val (.int qw), .val (.int (3 : Int32)), .val (.int c139), .val (.int c140), .val (.int c141), .unset, .unset, .unset] [])) rfl (hb hby at_130) (by decide) (by decide)
          obtain ⟨b145, g145⟩ : ∃ z, z = h144.size := ⟨_, rfl⟩
          rw [← g145] at A145 D145 U145 st145
          have Xo145 : Old Z n0 h145 := Xo144.ext E145
          have KK145 : Keep h0 h145 [] := KK144.ext E145
          have ge_b145 : n0 ≤ b145 := Nat.le_trans (own_ole Xo144) (Nat.le_of_eq g145.symm)
          have sz_b145 : h0.size ≤ b145 := Nat.le_trans KK144.1 (Nat.le_of_eq g145.symm)
          have Fi145_52 : Fld Z h145 b145 "java/lang/String" "coder" "B" (.int (0 : Int32)) := D145 (Or.inr (hw _ (List.mem_of_getElem? (i := 52) rfl))) (ty := .byte) (by decide)
          have Fi145_54 : Fld Z h145 b145 "java/lang/String" "value" "[B" .null := D145 (Or.inr (hw _ (List.mem_of_getElem? (i := 54) rfl))) (ty := (.array .byte)) (by decide)
          refine own_to (V := T145.setTop (mkF m 133 #[.val (.int qa), .val (.int qb), .val (.int qc), .val (.int qn), .val (.int qw), .val (.int (3 : Int32)), .val (.int c139), .val (.int c140), .val (.int c141), .unset, .unset, .unset] [(.ref b145)])) ?_ st145
          refine own_to (V := T145.setTop (mkF m 135 #[.val (.int qa), .val (.int qb), .val (.int qc), .val (.int qn), .val (.int qw), .val (.int (3 : Int32)), .val (.int c139), .val (.int c140), .val (.int c141), .unset, .unset, .unset] [(.int (3 : Int32)), (.ref b145), (.ref b145)])) ?_ fun t k => (by
            refine XS.dup X145.here hx rfl (hb hby at_133) rfl rfl ?_
            refine XS.iconst X145.here hx rfl (hb hby at_134) ?_
            exact k)
          obtain ⟨T146, h146, k146, X146, e146, E146, A146, st146⟩ := newP X145 hx hZ (hw _ (List.mem_of_getElem? (i := 9) rfl)) e145 (g := (mkF m 135 #[.val (.int qa), .val (.int qb), .val (.int qc), .val (.int qn), .val (.int qw), .val (.int (3 : Int32)), .val (.int c139), .val (.int c140), .val (.int c141), .unset, .unset, .unset] [(.int (3 : Int32)), (.ref b145), (.ref b145)])) rfl (hb hby at_135) rfl (by decide) (cap := 3) (by decide) (by decide) (by decide) (by decide)
          obtain ⟨b146, g146⟩ : ∃ z, z = h145.size := ⟨_, rfl⟩
          rw [← g146] at A146 st146
          have Xo146 : Old Z n0 h146 := Xo145.ext E146
          have KK146 : Keep h0 h146 [] := KK145.ext E146
          have ge_b146 : n0 ≤ b146 := Nat.le_trans (own_ole Xo145) (Nat.le_of_eq g146.symm)
          have sz_b146 : h0.size ≤ b146 := Nat.le_trans KK145.1 (Nat.le_of_eq g146.symm)
          have V146 : Arv Z h146 b146 k146 .char (3 : Int32) [(.int (0 : Int32)), (.int (0 : Int32)), (.int (0 : Int32))] (.int (0 : Int32)) := (Arv.new A146 (by decide)).pad (pad_rep [] (.int (0 : Int32)) 3)
          refine own_to (V := T146.setTop (mkF m 137 #[.val (.int qa), .val (.int qb), .val (.int qc), .val (.int qn), .val (.int qw), .val (.int (3 : Int32)), .val (.int c139), .val (.int c140), .val (.int c141), .unset, .unset, .unset] [(.ref b146), (.ref b145), (.ref b145)])) ?_ st146
          refine own_to (V := T146.setTop (mkF m 141 #[.val (.int qa), .val (.int qb), .val (.int qc), .val (.int qn), .val (.int qw), .val (.int (3 : Int32)), .val (.int c139), .val (.int c140), .val (.int c141), .unset, .unset, .unset] [(.int c139), (.int (0 : Int32)), (.ref b146), (.ref b146), (.ref b145), (.ref b145)])) ?_ fun t k => (by
            refine XS.dup X146.here hx rfl (hb hby at_137) rfl rfl ?_
            refine XS.iconst X146.here hx rfl (hb hby at_138) ?_
            refine XS.iload X146.here hx rfl (hb hby at_139) rfl ?_
            exact k)
          obtain ⟨cl147, Ar147, q147, S147, M147, H147, G147⟩ := id V146
          obtain ⟨T147, h147, X147, e147, W147, st147⟩ := stC X146 hx hZ e146 Ar147 (j := (0 : Int32)) (inb_of S147 ⟨by decide, by decide⟩) (g := (mkF m 141 #[.val (.int qa), .val (.int qb), .val (.int qc), .val (.int qn), .val (.int qw), .val (.int (3 : Int32)), .val (.int c139), .val (.int c140), .val (.int c141), .unset, .unset, .unset] [(.int c139), (.int (0 : Int32)), (.ref b146), (.ref b146), (.ref b145), (.ref b145)])) rfl rfl (hb hby at_141)
          rw [own_narC rc_c139] at W147
          have Xo147 : Old Z n0 h147 := Xo146.wr W147 ge_b146
          have KK147 : Keep h0 h147 [] := KK146.wr W147 (Or.inr sz_b146)
          have V147 : Arv Z h147 b146 k146 .char (3 : Int32) [(.int c139), (.int (0 : Int32)), (.int (0 : Int32))] (.int (0 : Int32)) := Arv.set Ar147 q147 S147 M147 H147 G147 (own_fitC rc_c139) W147 0 rfl (Nat.le_of_ble_eq_true rfl)
          have N147 := Fr.snoc X147 N144 ge_b146
          refine own_to (V := T147.setTop (mkF m 142 #[.val (.int qa), .val (.int qb), .val (.int qc), .val (.int qn), .val (.int qw), .val (.int (3 : Int32)), .val (.int c139), .val (.int c140), .val (.int c141), .unset, .unset, .unset] [(.ref b146), (.ref b145), (.ref b145)])) ?_ st147
          refine own_to (V := T147.setTop (mkF m 146 #[.val (.int qa), .val (.int qb), .val (.int qc), .val (.int qn), .val (.int qw), .val (.int (3 : Int32)), .val (.int c139), .val (.int c140), .val (.int c141), .unset, .unset, .unset] [(.int c140), (.int (1 : Int32)), (.ref b146), (.ref b146), (.ref b145), (.ref b145)])) ?_ fun t k => (by
            refine XS.dup X147.here hx rfl (hb hby at_142) rfl rfl ?_
            refine XS.iconst X147.here hx rfl (hb hby at_143) ?_
            refine XS.iload X147.here hx rfl (hb hby at_144) rfl ?_
            exact k)
          obtain ⟨cl148, Ar148, q148, S148, M148, H148, G148⟩ := id V147
          obtain ⟨T148, h148, X148, e148, W148, st148⟩ := stC X147 hx hZ e147 Ar148 (j := (1 : Int32)) (inb_of S148 ⟨by decide, by decide⟩) (g := (mkF m 146 #[.val (.int qa), .val (.int qb), .val (.int qc), .val (.int qn), .val (.int qw), .val (.int (3 : Int32)), .val (.int c139), .val (.int c140), .val (.int c141), .unset, .unset, .unset] [(.int c140), (.int (1 : Int32)), (.ref b146), (.ref b146), (.ref b145), (.ref b145)])) rfl rfl (hb hby at_146)
          rw [own_narC rc_c140] at W148
          have Xo148 : Old Z n0 h148 := Xo147.wr W148 ge_b146
          have KK148 : Keep h0 h148 [] := KK147.wr W148 (Or.inr sz_b146)
          have V148 : Arv Z h148 b146 k146 .char (3 : Int32) [(.int c139), (.int c140), (.int (0 : Int32))] (.int (0 : Int32)) := Arv.set Ar148 q148 S148 M148 H148 G148 (own_fitC rc_c140) W148 1 rfl (Nat.le_of_ble_eq_true rfl)
          have N148 := Fr.snoc X148 N147 ge_b146
          refine own_to (V := T148.setTop (mkF m 147 #[.val (.int qa), .val (.int qb), .val (.int qc), .val (.int qn), .val (.int qw), .val (.int (3 : Int32)), .val (.int c139), .val (.int c140), .val (.int c141), .unset, .unset, .unset] [(.ref b146), (.ref b145), (.ref b145)])) ?_ st148
          refine own_to (V := T148.setTop (mkF m 151 #[.val (.int qa), .val (.int qb), .val (.int qc), .val (.int qn), .val (.int qw), .val (.int (3 : Int32)), .val (.int c139), .val (.int c140), .val (.int c141), .unset, .unset, .unset] [(.int c141), (.int (2 : Int32)), (.ref b146), (.ref b146), (.ref b145), (.ref b145)])) ?_ fun t k => (by
            refine XS.dup X148.here hx rfl (hb hby at_147) rfl rfl ?_
            refine XS.iconst X148.here hx rfl (hb hby at_148) ?_
            refine XS.iload X148.here hx rfl (hb hby at_149) rfl ?_
            exact k)
          obtain ⟨cl149, Ar149, q149, S149, M149, H149, G149⟩ := id V148
          obtain ⟨T149, h149, X149, e149, W149, st149⟩ := stC X148 hx hZ e148 Ar149 (j := (2 : Int32)) (inb_of S149 ⟨by decide, by decide⟩) (g := (mkF m 151 #[.val (.int qa), .val (.int qb), .val (.int qc), .val (.int qn), .val (.int qw), .val (.int (3 : Int32)), .val (.int c139), .val (.int c140), .val (.int c141), .unset, .unset, .unset] [(.int c141), (.int (2 : Int32)), (.ref b146), (.ref b146), (.ref b145), (.ref b145)])) rfl rfl (hb hby at_151)
          rw [own_narC rc_c141] at W149
          have Xo149 : Old Z n0 h149 := Xo148.wr W149 ge_b146
          have KK149 : Keep h0 h149 [] := KK148.wr W149 (Or.inr sz_b146)
          have V149 : Arv Z h149 b146 k146 .char (3 : Int32) [(.int c139), (.int c140), (.int c141)] (.int (0 : Int32)) := Arv.set Ar149 q149 S149 M149 H149 G149 (own_fitC rc_c141) W149 2 rfl (Nat.le_of_ble_eq_true rfl)
          have N149 := Fr.snoc X149 N148 ge_b146
          refine own_to (V := T149.setTop (mkF m 152 #[.val (.int qa), .val (.int qb), .val (.int qc), .val (.int qn), .val (.int qw), .val (.int (3 : Int32)), .val (.int c139), .val (.int c140), .val (.int c141), .unset, .unset, .unset] [(.ref b146), (.ref b145), (.ref b145)])) ?_ st149
          have Fg151 : Arv Z h149 b146 k146 .char (Int32.ofNat ([c139, c140, c141] : List Int32).length) (([c139, c140, c141] : List Int32).map Value.int) (.int (0 : Int32)) := V149
          have F152 : Exa Z h149 b145 "java/lang/String" := ((((A145.ext E146).wr W147).wr W148).wr W149)
          have F153 : Fld Z h149 b145 "java/lang/String" "value" "[B" .null := ((((Fi145_54.ext E146).other W147 (Or.inl (Nat.ne_of_lt (Nat.lt_of_lt_of_le A145.lt (Nat.le_of_eq g146.symm))))).other W148 (Or.inl (Nat.ne_of_lt (Nat.lt_of_lt_of_le A145.lt (Nat.le_of_eq g146.symm))))).other W149 (Or.inl (Nat.ne_of_lt (Nat.lt_of_lt_of_le A145.lt (Nat.le_of_eq g146.symm)))))
          have F154 : Fld Z h149 b145 "java/lang/String" "coder" "B" (.int (0 : Int32)) := ((((Fi145_52.ext E146).other W147 (Or.inl (Nat.ne_of_lt (Nat.lt_of_lt_of_le A145.lt (Nat.le_of_eq g146.symm))))).other W148 (Or.inl (Nat.ne_of_lt (Nat.lt_of_lt_of_le A145.lt (Nat.le_of_eq g146.symm))))).other W149 (Or.inl (Nat.ne_of_lt (Nat.lt_of_lt_of_le A145.lt (Nat.le_of_eq g146.symm)))))
          obtain ⟨_, _, ⟨T150, L150, k150, n150⟩, -, X150, ⟨Lc150, hQ150, l150, y150, z150⟩, st150⟩ := X149.specialBack hx (y := (⟨"java/lang/String", "<init>", "([C)V"⟩ : MethodName)) rfl hown (mvT hZ (hw _ (List.mem_of_getElem? (i := 10) rfl))) (mvT hZ (hw _ (List.mem_of_getElem? (i := 11) rfl))) (mvT hZ (hw _ (List.mem_of_getElem? (i := 12) rfl))) (by decide) (backOf (W := 1) (own_rmsini l Z a0 hw hst [] b145 b146 k146 ([c139, c140, c141] : List Int32) h149 n0 Xo149 F152 F153 F154 ge_b145 Fg151 (own_allS rc_c139 (own_allS rc_c140 (own_allS rc_c141 own_all0))) (Nat.le_of_ble_eq_true rfl) (Nat.le_of_ble_eq_true rfl)) hZ (hw _ (List.mem_of_getElem? (i := 12) rfl)) (hw _ (List.mem_of_getElem? (i := 8) rfl)) (by decide) (by decide)) (g := (mkF m 152 #[.val (.int qa), .val (.int qb), .val (.int qc), .val (.int qn), .val (.int qw), .val (.int (3 : Int32)), .val (.int c139), .val (.int c140), .val (.int c141), .unset, .unset, .unset] [(.ref b146), (.ref b145), (.ref b145)])) rfl (by rw [hml]; rfl) (Steps.refl _) (a := b145) (argsL := [(.ref b146)]) (rest := [(.ref b145)]) (lenOf own_pd20 rfl) rfl (by show 2 * 0 + _ ≤ _; exact Nat.le_of_eq rfl) (hb hby at_152) (fun _ _ => ⟨rfl, e149, (by decide : 2 + 2 ≤ _), (by decide : 7 + 9 ≤ _)⟩)
          dsimp only [Pt.U, Pt.locs, Pt.cells, Pt.slots] at X150 l150 y150 z150 st150 hQ150
          subst l150 y150 z150
          obtain ⟨ou150, hv150, N150q, K150, g150_0, g150_1, g150_2⟩ := hQ150
          subst hv150
          obtain ⟨h150, e150⟩ : ∃ z, T150.heap = z := ⟨_, rfl⟩
          rw [e150] at K150 g150_2
          have Xo150 : Old Z n0 h150 := Xo149.keep K150 (allS ge_b145 all0)
          have KK150 : Keep h0 h150 [] := KK149.trans K150 (allS (Or.inr sz_b145) all0)
          have N150 := Fr.app N149 N150q
          have ge_ou150 : n0 ≤ ou150 := Nat.le_trans (own_ole Xo149) g150_0
          have sz_ou150 : h0.size ≤ ou150 := Nat.le_trans KK149.1 g150_0
          refine own_to (V := T150.setTop (mkF m 155 #[.val (.int qa), .val (.int qb), .val (.int qc), .val (.int qn), .val (.int qw), .val (.int (3 : Int32)), .val (.int c139), .val (.int c140), .val (.int c141), .unset, .unset, .unset] [(.ref b145)])) ?_ (fun t k => st150.trans k)
          obtain ⟨c155, hc155⟩ : ∃ z : Int32, z = ((qw &&& (255 : Int32)).toUInt32.toUInt16.toUInt32.toInt32) := ⟨_, rfl⟩
          have rc_c155 : ¬ c155 < 0 ∧ ¬ (65535 : Int32) < c155 := by rw [hc155]; exact own_i2c_rng _
          have rb_c155 : ¬ c155 < 0 ∧ ¬ (255 : Int32) < c155 := by rw [hc155]; exact own_and255 _
          refine own_to (V := T150.setTop (mkF m 164 #[.val (.int qa), .val (.int qb), .val (.int qc), .val (.int qn), .val (.int qw), .val (.int (3 : Int32)), .val (.int c139), .val (.int c140), .val (.int c141), .val (.ref b145), .unset, .unset] [(.int c155)])) ?_ fun t k => (by
            first | rw [hc155] at k | skip
            refine XS.astore X150.here hx rfl (hb hby at_155) rfl rfl (l' := #[.val (.int qa), .val (.int qb), .val (.int qc), .val (.int qn), .val (.int qw), .val (.int (3 : Int32)), .val (.int c139), .val (.int c140), .val (.int c141), .val (.ref b145), .unset, .unset]) rfl ?_
            refine XS.iload X150.here hx rfl (hb hby at_157) rfl ?_
            refine XS.sipush X150.here hx rfl (hb hby at_159) ?_
            refine XS.iand X150.here hx rfl (hb hby at_162) rfl ?_
            refine XS.i2c X150.here hx rfl (hb hby at_163) rfl ?_
            exact k)
          obtain ⟨_, _, ⟨T156, L156, k156, n156⟩, -, X156, ⟨Lc156, hQ156, l156, y156, z156⟩, st156⟩ := Jvm.LawKit.callS X150 hx (y := (⟨"java/lang/String", "valueOf", "(C)Ljava/lang/String;"⟩ : MethodName)) hown (mvT hZ (hw _ (List.mem_of_getElem? (i := 55) rfl))) (mvT hZ (hw _ (List.mem_of_getElem? (i := 56) rfl))) (mvT hZ (hw _ (List.mem_of_getElem? (i := 8) rfl))) (mvT hZ (hw _ (List.mem_of_getElem? (i := 57) rfl))) (by decide) (backOf (W := 0) (own_rmsval l Z a0 hw hst [] c155 h150 n0 Xo150 rb_c155) hZ (hw _ (List.mem_of_getElem? (i := 57) rfl)) (hw _ (List.mem_of_getElem? (i := 8) rfl)) (by decide) (by decide)) (g := (mkF m 164 #[.val (.int qa), .val (.int qb), .val (.int qc), .val (.int qn), .val (.int qw), .val (.int (3 : Int32)), .val (.int c139), .val (.int c140), .val (.int c141), .val (.ref b145), .unset, .unset] [(.int c155)])) rfl (by rw [hml]; rfl) (argsL := [(.int c155)]) (rest := []) (lenOf own_pd21 rfl) rfl (by show 2 * 0 + _ ≤ _; exact Nat.le_of_eq rfl) (hb hby at_164) (fun _ _ => ⟨rfl, e150, (by decide : 4 + 2 ≤ _), (by decide : 16 + 5 ≤ _)⟩)
          dsimp only [Pt.U, Pt.locs, Pt.cells, Pt.slots] at X156 l156 y156 z156 st156 hQ156
          subst l156 y156 z156
          obtain ⟨oa156, ou156, hv156, N156q, K156, g156_0, g156_1, g156_2, g156_3⟩ := hQ156
          subst hv156
          obtain ⟨h156, e156⟩ : ∃ z, T156.heap = z := ⟨_, rfl⟩
          rw [e156] at K156 g156_3
          have Xo156 : Old Z n0 h156 := Xo150.keep K156 all0
          have KK156 : Keep h0 h156 [] := KK150.trans K156 all0
          have N156 := Fr.app N150 N156q
          have ge_oa156 : n0 ≤ oa156 := Nat.le_trans (own_ole Xo150) g156_0
          have sz_oa156 : h0.size ≤ oa156 := Nat.le_trans KK150.1 g156_0
          have ge_ou156 : n0 ≤ ou156 := Nat.le_trans (own_ole Xo150) g156_1
          have sz_ou156 : h0.size ≤ ou156 := Nat.le_trans KK150.1 g156_1
          refine own_to (V := T156.setTop (mkF m 167 #[.val (.int qa), .val (.int qb), .val (.int qc), .val (.int qn), .val (.int qw), .val (.int (3 : Int32)), .val (.int c139), .val (.int c140), .val (.int c141), .val (.ref b145), .unset, .unset] [(.ref oa156)])) ?_ st156
          refine own_to (V := T156.setTop (mkF m 173 #[.val (.int qa), .val (.int qb), .val (.int qc), .val (.int qn), .val (.int qw), .val (.int (3 : Int32)), .val (.int c139), .val (.int c140), .val (.int c141), .val (.ref b145), .val (.ref oa156), .unset] [(.ref oa156), (.ref b145)])) ?_ fun t k => (by
            refine XS.astore X156.here hx rfl (hb hby at_167) rfl rfl (l' := #[.val (.int qa), .val (.int qb), .val (.int qc), .val (.int qn), .val (.int qw), .val (.int (3 : Int32)), .val (.int c139), .val (.int c140), .val (.int c141), .val (.ref b145), .val (.ref oa156), .unset]) rfl ?_
            refine XS.aload X156.here hx rfl (hb hby at_169) rfl rfl ?_
            refine XS.aload X156.here hx rfl (hb hby at_171) rfl rfl ?_
            exact k)
          have F158 : own_Str Z h156 b145 ou150 ([c139, c140, c141] : List Int32) := (g150_2.keep K156 List.not_mem_nil List.not_mem_nil)
          obtain ⟨_, _, ⟨T157, L157, k157, n157⟩, -, X157, ⟨Lc157, hQ157, l157, y157, z157⟩, st157⟩ := Jvm.LawKit.callS X156 hx (y := (⟨"com/example/turnwise/turnwise/input/Ids", "check", "(Ljava/lang/String;Ljava/lang/String;)Ljava/lang/String;"⟩ : MethodName)) hown (mvT hZ (hw _ (List.mem_of_getElem? (i := 69) rfl))) (mvT hZ (hw _ (List.mem_of_getElem? (i := 70) rfl))) (mvT hZ (hw _ (List.mem_of_getElem? (i := 71) rfl))) (mvT hZ (hw _ (List.mem_of_getElem? (i := 72) rfl))) (by decide) (backOf (W := 0) (own_rmchk3 l Z a0 hw hst [] b145 ou150 oa156 c139 c140 c141 h156 n0 Xo156 F158 rc_c139 rc_c140 rc_c141 g142_0 g143_0 g144_0) hZ (hw _ (List.mem_of_getElem? (i := 72) rfl)) (hw _ (List.mem_of_getElem? (i := 71) rfl)) (by decide) (by decide)) (g := (mkF m 173 #[.val (.int qa), .val (.int qb), .val (.int qc), .val (.int qn), .val (.int qw), .val (.int (3 : Int32)), .val (.int c139), .val (.int c140), .val (.int c141), .val (.ref b145), .val (.ref oa156), .unset] [(.ref oa156), (.ref b145)])) rfl (by rw [hml]; rfl) (argsL := [(.ref b145), (.ref oa156)]) (rest := []) (lenOf own_pd22 rfl) rfl (by show 2 * 0 + _ ≤ _; exact Nat.le_of_eq rfl) (hb hby at_173) (fun _ _ => ⟨rfl, e156, (by decide : 6 + 0 ≤ _), (by decide : 21 + 0 ≤ _)⟩)
          dsimp only [Pt.U, Pt.locs, Pt.cells, Pt.slots] at X157 l157 y157 z157 st157 hQ157
          subst l157 y157 z157
          obtain ⟨hv157, N157q, K157⟩ := hQ157
          subst hv157
          obtain ⟨h157, e157⟩ : ∃ z, T157.heap = z := ⟨_, rfl⟩
          rw [e157] at K157
          have Xo157 : Old Z n0 h157 := Xo156.keep K157 all0
          have KK157 : Keep h0 h157 [] := KK156.trans K157 all0
          have N157 := Fr.app N156 N157q
          refine own_to (V := T157.setTop (mkF m 176 #[.val (.int qa), .val (.int qb), .val (.int qc), .val (.int qn), .val (.int qw), .val (.int (3 : Int32)), .val (.int c139), .val (.int c140), .val (.int c141), .val (.ref b145), .val (.ref oa156), .unset] [(.ref b145)])) ?_ st157
          refine own_to (V := T157.setTop (mkF m 182 #[.val (.int qa), .val (.int qb), .val (.int qc), .val (.int qn), .val (.int qw), .val (.int (3 : Int32)), .val (.int c139), .val (.int c140), .val (.int c141), .val (.ref b145), .val (.ref oa156), .val (.ref b145)] [(.ref b145), (.ref b145)])) ?_ fun t k => (by
            refine XS.astore X157.here hx rfl (hb hby at_176) rfl rfl (l' := #[.val (.int qa), .val (.int qb), .val (.int qc), .val (.int qn), .val (.int qw), .val (.int (3 : Int32)), .val (.int c139), .val (.int c140), .val (.int c141), .val (.ref b145), .val (.ref oa156), .val (.ref b145)]) rfl ?_
            refine XS.aload X157.here hx rfl (hb hby at_178) rfl rfl ?_
            refine XS.aload X157.here hx rfl (hb hby at_180) rfl rfl ?_
            exact k)
          refine own_to (V := T157.setTop (mkF m 190 #[.val (.int qa), .val (.int qb), .val (.int qc), .val (.int qn), .val (.int qw), .val (.int (3 : Int32)), .val (.int c139), .val (.int c140), .val (.int c141), .val (.ref b145), .val (.ref oa156), .val (.ref b145)] [(.int (1 : Int32))])) ?_ fun t k => (by
            refine Jvm.RoadKit.acmp (g := (mkF m 182 #[.val (.int qa), .val (.int qb), .val (.int qc), .val (.int qn), .val (.int qw), .val (.int (3 : Int32)), .val (.int c139), .val (.int c140), .val (.int c141), .val (.ref b145), .val (.ref oa156), .val (.ref b145)] [(.ref b145), (.ref b145)])) X157 hx rfl rfl rfl (pc0 := 182) (pc' := 185) (same := true) rfl (hb hby at_182) rfl (decide_eq_true rfl) (by decide) (by decide) ?_
            refine XS.iconst X157.here hx rfl (hb hby at_185) ?_
            refine XS.goto X157.here hx rfl (pc0 := 186) (pc' := 190) rfl (hb hby at_186) (by decide) (by decide) ?_
            exact k)
          exact own_retN X157 hx (t := .boolean) (w := (1 : Int32)) hret (by decide) rfl hlk (hb hby at_190) (by rw [e157]; exact (⟨rfl, N157, KK157⟩)) (by decide) (by decide)
set_option maxRecDepth 65536 in
set_option maxHeartbeats 40000000 in
theorem comes_1 {Post : Tables → Env → Array Value → State → Outcome → State → Prop} (hpost : ∀ tb e args s v u, (limb_1_1.after args s (.returned v) u = true ∧ limb_1_2.after args s (.returned v) u = true ∧ True) → FrameEnd s (.returned v) u (Jvm.fieldLocs frame_1_writes args s ++ Jvm.arrayLocs frame_1_arrays args s ++ Jvm.staticLocs frame_1_statics s) 24 128 → Post tb e args s (.returned v) u) :
    ArmFor flags0 classFile x code maxLocals ret World_1 tables_1 room_1 Calls_1 rest_1 Pre_1 Post := by
  intro l hfl _ _ p e ha hc hk s m args below hf hA hF happ hP
  obtain ⟨hcalls, hrest, hpre⟩ := hP
  obtain ⟨-, -, -, hnamed, -, -, -, hat⟩ := (Spec.applies_iff hf).mp happ
  obtain ⟨hg, hn⟩ := and_e (Cond.before_iff.mp (show (Jvm.Cond.and given_1 narrow_1).before args s = true from hpre))
  obtain ⟨hcnt, gr0⟩ := and_e hg
  obtain ⟨ga0, gr1⟩ := and_e gr0
  obtain ⟨ga1, gr2⟩ := and_e gr1
  obtain ⟨ga2, gr3⟩ := and_e gr2
  obtain ⟨ga3, gr4⟩ := and_e gr3
  have ga4 := gr4
  obtain ⟨w0, w1, w2, w3, w4, rfl⟩ : ∃ w0 w1 w2 w3 w4 : Value, args = #[w0, w1, w2, w3, w4] := by
    have hs : args.size = 5 := by simpa [Cond.value, given_1] using hcnt
    obtain ⟨L⟩ := args
    match L, hs with
    | [w0, w1, w2, w3, w4], _ => exact ⟨w0, w1, w2, w3, w4, rfl⟩
  have hw := fun d (hd : d ∈ tables_1) => atoms_spec (ws := Jvm.Cond.code x code maxLocals ret :: tables_1) hat d (List.mem_cons_of_mem _ hd)
  have hfit : Fit s := fun {y c} hc i hi => by
    obtain ⟨ha, rfl⟩ := Array.getElem?_eq_some_iff.mp hc
    have q := List.all_eq_true.mp ((Array.all_eq_true_iff_forall_mem.mp hF) _ (Array.getElem_mem ha)) i (List.mem_range.mpr hi)
    simpa [Array.getElem?_eq_getElem hi] using q
  obtain ⟨hsets, hown0⟩ := atoms_of _ (rest_1_c_eq ▸ (show rest_1_c.before _ s = true from hrest))
  obtain ⟨i0, ei0⟩ := is_v ga0
  obtain rfl : w0 = (.int i0) := Option.some.inj ei0
  obtain ⟨i1, ei1⟩ := is_v ga1
  obtain rfl : w1 = (.int i1) := Option.some.inj ei1
  obtain ⟨i2, ei2⟩ := is_v ga2
  obtain rfl : w2 = (.int i2) := Option.some.inj ei2
  obtain ⟨i3, ei3⟩ := is_v ga3
  obtain rfl : w3 = (.int i3) := Option.some.inj ei3
  obtain ⟨i4, ei4⟩ := is_v ga4
  obtain rfl : w4 = (.int i4) := Option.some.inj ei4
  obtain ⟨z1, ez1⟩ := is_v (Cond.before_iff.mp (hsets _ (List.mem_of_getElem? (i := 1) rfl)))
  have S1 : Sta s s.heap "java/lang/String" "COMPACT_STRINGS" "Z" (.int z1) := Sta.start ez1 (Or.inl (hsets _ (List.mem_of_getElem? (i := 0) rfl)))
  have P1 : ¬ (z1 = (0 : Int32)) := gotF (Cond.eq_ints ez1 (Term.int_eval (0))) (not_v (Cond.before_iff.mp (hsets _ (List.mem_of_getElem? (i := 2) rfl))))
  obtain ⟨v3, ev3, r3⟩ := isR_v (Cond.before_iff.mp (hsets _ (List.mem_of_getElem? (i := 8) rfl)))
  have S3 : Sta s s.heap "jdk/internal/util/Preconditions" "SIOOBE_FORMATTER" "Ljava/util/function/BiFunction;" v3 := Sta.start ev3 (Or.inl (hsets _ (List.mem_of_getElem? (i := 7) rfl)))
  have hU1 := own_staI (Cond.before_iff.mp (hsets _ (List.mem_of_getElem? (i := 12) rfl))) (hsets _ (List.mem_of_getElem? (i := 11) rfl))
  have hU2 := own_staI (Cond.before_iff.mp (hsets _ (List.mem_of_getElem? (i := 15) rfl))) (hsets _ (List.mem_of_getElem? (i := 14) rfl))
  have hU3 := own_staI (Cond.before_iff.mp (hsets _ (List.mem_of_getElem? (i := 18) rfl))) (hsets _ (List.mem_of_getElem? (i := 17) rfl))
  have hst : own_St s := ⟨⟨z1, S1, P1⟩, ⟨v3, S3, r3⟩, ⟨hU1, hU2, hU3⟩, trivial⟩
  obtain ⟨n, o, h1, h2, h3, _, L, rfl, ⟨rfl, N, -⟩, hq⟩ := own_rmlaw l s _ hw hst tables_1 i0 i1 i2 i3 i4 s.heap s.heap.size (Old.start s)  p e ha hc hk s m _ below hf ((Spec.applies_iff_loose hf).mp happ).1 ⟨rfl, State.Warmed39.refl s, rfl⟩ trivial
  refine ⟨n, _, h1, h2, h3, hpost _ _ _ _ _ _ ⟨Cond.after_iff.mpr rfl, Cond.after_iff.mpr (eq_i res_at (Term.int_eval (1)) rfl), trivial⟩ ⟨hq.1, hq.2.1, (hq.2.2.sift fun y hy => Or.inr (N y hy)).mono (by decide) (by decide)⟩⟩
theorem main_1_1 : Claimed_1_1 := comes_1 fun _ _ _ _ _ _ h hF => ⟨h.1, hF⟩
theorem main_1_2 : Claimed_1_2 := comes_1 fun _ _ _ _ _ _ h hF => ⟨h.2.1, hF⟩
end Jvm.Pilot.@@N@@
namespace Jvm.Pilot.@@N@@
open Jvm Jvm.ClassFile Sem Op Lib Jvm.Free Jvm.Stand Jvm.Pilot.@@N@@.Jvm.D
/-! MADE BY PROGRAM (witnessworld.py) out of the Statement's table words and the real class files: 21 classes; the members and pool entries that the words name. The judged class is class 1, her method 2. -/
namespace start1
open Jvm.ClassFile
def u (s : String) : CpInfo := .utf8 (stringToUtf16 s)
/-- a pool by its gaps: so many unusable entries, then the entry; so many at the end -/
def gap : Nat → List CpInfo → List CpInfo
  | 0, r => r
  | n + 1, r => .unusable :: gap n r
def poolList (es : List (Nat × CpInfo)) (last : Nat) : List CpInfo := es.foldr (fun e r => gap e.1 (e.2 :: r)) (gap last [])
def pool (es : List (Nat × CpInfo)) (last : Nat) : Array CpInfo := ⟨poolList es last⟩
def fileOf (pool : Array CpInfo) (this : Nat) (attrs : Array Attribute := #[]) (ms : Array MethodInfo := #[]) (fl : Nat := 33) (sup : Nat := 0) (ifs : Array Nat := #[]) (fds : Array FieldInfo := #[]) : ClassFile where
  minorVersion := 0
  majorVersion := 65
  constantPool := pool
  accessFlags := fl
  thisClass := this
  superClass := sup
  interfaces := ifs
  fields := fds
  methods := ms
  attributes := attrs
def plain (name : String) (sup : Option ClassId) : Class where
  name := name
  kind := .ordinary
  loader := none
  accessFlags := 33
  super := sup
  interfaces := #[]
  cf := none
  fields := #[]
  methods := #[]
  instanceTypes := #[]
  staticTypes := #[]
  resolved := #[]
  callSites := []
  init := .initialized
  statics := none
  mirror := none

def pool0 : Array CpInfo := pool [(5, u "<init>"), (0, u "()V"), (1, .class_ 10), (1, u "java/lang/Object")] 113

def k0c0 : Code := { maxStack := 0, maxLocals := 1, code := object_method_1_code, exceptionTable := #[], attributes := #[] }
def k0m0 : Method := { name := "<init>", desc := "()V", sig := { parameters := [], returnType := none }, accessFlags := 1, code := some k0c0 }
/-- java/lang/Object -/
def k0 : Class := { plain "java/lang/Object" none with
  accessFlags := 33
  interfaces := #[]
  cf := some (fileOf pool0 8 #[] #[{ accessFlags := 1, nameIndex := 5, descriptorIndex := 6, attributes := #[] }] 33 0 #[] #[])
  fields := #[]
  methods := #[k0m0]
  instanceTypes := #[]
  staticTypes := #[]
  resolved := Array.replicate 124 none
  statics := none }

def pool1 : Array CpInfo := pool [(2, .class_ 4), (1, u "java/lang/Object"), (0, u "<init>"), (0, u "()V"), (0, .integer 2147483647), (0, .integer 65535), (0, .methodref 10 11), (0, .class_ 12), (0, .nameAndType 13 14), (0, u "com/example/turnwise/turnwise/input/IdsCheckPinLaw"), (0, u "control"), (0, u "(C)Z"), (0, .class_ 16), (0, u "java/lang/String"), (0, .methodref 15 18), (0, .nameAndType 5 19), (0, u "([C)V"), (0, .methodref 15 21), (0, .nameAndType 22 23), (0, u "valueOf"), (0, u "(C)Ljava/lang/String;"), (0, .methodref 25 26), (0, .class_ 27), (0, .nameAndType 28 29), (0, u "com/example/turnwise/turnwise/input/Ids"), (0, u "check"), (0, u "(Ljava/lang/String;Ljava/lang/String;)Ljava/lang/String;"), (3, u "law"), (0, u "(IIIII)Z")] 5

def k1m0 : Method := { name := "<init>", desc := "()V", sig := { parameters := [], returnType := none }, accessFlags := 2, code := none }
def k1c1 : Code := { maxStack := 2, maxLocals := 1, code := method_2_code, exceptionTable := #[], attributes := #[] }
def k1m1 : Method := { name := "control", desc := "(C)Z", sig := { parameters := [.char], returnType := some .boolean }, accessFlags := 10, code := some k1c1 }
def k1c2 : Code := { maxStack := 6, maxLocals := 12, code := code, exceptionTable := #[], attributes := #[] }
def k1m2 : Method := { name := "law", desc := "(IIIII)Z", sig := { parameters := [.int, .int, .int, .int, .int], returnType := some .boolean }, accessFlags := 9, code := some k1c2 }
/-- com/example/turnwise/turnwise/input/IdsCheckPinLaw -/
def k1 : Class := { plain "com/example/turnwise/turnwise/input/IdsCheckPinLaw" (some 0) with
  accessFlags := 49
  interfaces := #[]
  cf := some (fileOf pool1 10 #[] #[{ accessFlags := 2, nameIndex := 5, descriptorIndex := 6, attributes := #[] }, { accessFlags := 10, nameIndex := 13, descriptorIndex := 14, attributes := #[] }, { accessFlags := 9, nameIndex := 33, descriptorIndex := 34, attributes := #[] }] 49 2 #[] #[])
  fields := #[]
  methods := #[k1m0, k1m1, k1m2]
  instanceTypes := #[]
  staticTypes := #[]
  resolved := Array.replicate 40 none
  statics := none }

def pool2 : Array CpInfo := pool [(1, .class_ 2), (0, u "java/io/Serializable"), (0, .class_ 4), (0, u "java/lang/Object")] 2

/-- java/io/Serializable -/
def k2 : Class := { plain "java/io/Serializable" (some 0) with
  accessFlags := 1537
  interfaces := #[]
  cf := some (fileOf pool2 1 #[] #[] 1537 3 #[] #[])
  fields := #[]
  methods := #[]
  instanceTypes := #[]
  staticTypes := #[]
  resolved := Array.replicate 7 none
  statics := none }

def pool3 : Array CpInfo := pool [(1, .class_ 2), (0, u "java/lang/Comparable"), (0, .class_ 4), (0, u "java/lang/Object")] 7

/-- java/lang/Comparable -/
def k3 : Class := { plain "java/lang/Comparable" (some 0) with
  accessFlags := 1537
  interfaces := #[]
  cf := some (fileOf pool3 1 #[] #[] 1537 3 #[] #[])
  fields := #[]
  methods := #[]
  instanceTypes := #[]
  staticTypes := #[]
  resolved := Array.replicate 12 none
  statics := none }

def pool4 : Array CpInfo := pool [(2, .class_ 4), (1, u "java/lang/CharSequence"), (42, .class_ 48), (0, u "java/lang/CharSequence$1CodePointIterator"), (10, .class_ 60), (0, u "java/lang/CharSequence$1CharIterator"), (5, .class_ 67), (0, u "java/lang/Object")] 63

/-- java/lang/CharSequence -/
def k4 : Class := { plain "java/lang/CharSequence" (some 0) with
  accessFlags := 1537
  interfaces := #[]
  cf := some (fileOf pool4 2 #[.nestMembers #[47, 59]] #[] 1537 66 #[] #[])
  fields := #[]
  methods := #[]
  instanceTypes := #[]
  staticTypes := #[]
  resolved := Array.replicate 131 none
  statics := none }

def pool5 : Array CpInfo := pool [(1, .class_ 2), (0, u "java/lang/constant/Constable"), (0, .class_ 4), (0, u "java/lang/Object")] 6

/-- java/lang/constant/Constable -/
def k5 : Class := { plain "java/lang/constant/Constable" (some 0) with
  accessFlags := 1537
  interfaces := #[]
  cf := some (fileOf pool5 1 #[] #[] 1537 3 #[] #[])
  fields := #[]
  methods := #[]
  instanceTypes := #[]
  staticTypes := #[]
  resolved := Array.replicate 11 none
  statics := none }

def pool6 : Array CpInfo := pool [(1, .class_ 2), (0, u "java/lang/constant/ConstantDesc"), (0, .class_ 4), (0, u "java/lang/Object")] 32

/-- java/lang/constant/ConstantDesc -/
def k6 : Class := { plain "java/lang/constant/ConstantDesc" (some 0) with
  accessFlags := 1537
  interfaces := #[]
  cf := some (fileOf pool6 1 #[] #[] 1537 3 #[] #[])
  fields := #[]
  methods := #[]
  instanceTypes := #[]
  staticTypes := #[]
  resolved := Array.replicate 37 none
  statics := none }

def pool7 : Array CpInfo := pool [(1, .methodref 2 3), (0, .class_ 4), (0, .nameAndType 5 6), (0, u "java/lang/Object"), (0, u "<init>"), (0, u "()V"), (2, .fieldref 10 11), (0, .class_ 12), (0, .nameAndType 13 14), (0, u "java/lang/String"), (0, u "value"), (0, u "[B"), (0, .fieldref 10 16), (0, .nameAndType 17 18), (0, u "coder"), (0, u "B"), (2, u "hash"), (0, u "I"), (2, u "hashIsZero"), (0, u "Z"), (0, .methodref 10 28), (0, .nameAndType 5 29), (0, u "([CIILjava/lang/Void;)V"), (8, .fieldref 10 39), (0, .nameAndType 40 26), (0, u "COMPACT_STRINGS"), (1, .class_ 44), (1, u "java/lang/StringUTF16"), (0, u "compress"), (1, .methodref 42 48), (0, .nameAndType 49 50), (0, u "coderFromArrayLen"), (0, u "([BI)B"), (2, u "toBytes"), (53, .class_ 109), (1, u "java/lang/StringLatin1"), (32, u "()Z"), (34, .methodref 42 178), (0, .nameAndType 45 179), (0, u "([CII)[B"), (29, .methodref 10 210), (0, .nameAndType 5 211), (0, u "([BB)V"), (122, u "()I"), (0, .methodref 10 336), (0, .nameAndType 17 337), (0, u "()B"), (25, u "([BI)C"), (5, u "(C)Z"), (21, u "(II)V"), (35, u "(I)C"), (64, .methodref 10 493), (0, .nameAndType 494 142), (0, u "isLatin1"), (0, .methodref 107 496), (0, .nameAndType 497 363), (0, u "charAt"), (0, .methodref 42 496), (2, u "checkIndex"), (5, u "length"), (67, .class_ 576), (0, u "java/lang/CharSequence"), (22, u "CASE_INSENSITIVE_ORDER"), (0, u "Ljava/util/Comparator;"), (91, u "isEmpty"), (89, u "valueOf"), (0, u "(C)Ljava/lang/String;"), (226, u "([C)V"), (4, .methodref 107 1016), (0, .nameAndType 1017 369), (0, u "canEncode"), (0, .methodref 107 1019), (0, .nameAndType 53 1020), (0, u "(C)[B"), (32, .fieldref 1054 1055), (0, .class_ 1056), (0, .nameAndType 1057 1058), (0, u "jdk/internal/util/Preconditions"), (0, u "SIOOBE_FORMATTER"), (0, u "Ljava/util/function/BiFunction;"), (0, .methodref 1054 1060), (0, .nameAndType 501 1061), (0, u "(IILjava/util/function/BiFunction;)I"), (39, u "serialPersistentFields"), (0, u "[Ljava/io/ObjectStreamField;"), (0, .class_ 1104), (0, u "java/lang/String$CaseInsensitiveComparator"), (1, .class_ 1107), (0, u "java/io/Serializable"), (0, .class_ 1109), (0, u "java/lang/Comparable"), (0, .class_ 1111), (0, u "java/lang/constant/Constable"), (0, .class_ 1113), (0, u "java/lang/constant/ConstantDesc"), (2, u "serialVersionUID"), (0, u "J"), (3, u "REPL"), (0, u "C"), (2, u "LATIN1"), (1, u "UTF16")] 323

def k7m0 : Method := { name := "<init>", desc := "()V", sig := { parameters := [], returnType := none }, accessFlags := 1, code := none }
def k7c1 : Code := { maxStack := 5, maxLocals := 2, code := jdk_42_method_3_code, exceptionTable := #[], attributes := #[] }
def k7m1 : Method := { name := "<init>", desc := "([C)V", sig := { parameters := [(.array .char)], returnType := none }, accessFlags := 1, code := some k7c1 }
def k7c2 : Code := { maxStack := 2, maxLocals := 1, code := jdk_42_method_54_code, exceptionTable := #[], attributes := #[] }
def k7m2 : Method := { name := "length", desc := "()I", sig := { parameters := [], returnType := some .int }, accessFlags := 1, code := some k7c2 }
def k7c3 : Code := { maxStack := 1, maxLocals := 1, code := jdk_42_method_55_code, exceptionTable := #[], attributes := #[] }
def k7m3 : Method := { name := "isEmpty", desc := "()Z", sig := { parameters := [], returnType := some .boolean }, accessFlags := 1, code := some k7c3 }
def k7c4 : Code := { maxStack := 2, maxLocals := 2, code := jdk_42_method_56_code, exceptionTable := #[], attributes := #[] }
def k7m4 : Method := { name := "charAt", desc := "(I)C", sig := { parameters := [.int], returnType := some .char }, accessFlags := 1, code := some k7c4 }
def k7c5 : Code := { maxStack := 4, maxLocals := 1, code := jdk_42_method_139_code, exceptionTable := #[], attributes := #[] }
def k7m5 : Method := { name := "valueOf", desc := "(C)Ljava/lang/String;", sig := { parameters := [.char], returnType := some (.object "java/lang/String") }, accessFlags := 9, code := some k7c5 }
def k7c6 : Code := { maxStack := 4, maxLocals := 6, code := jdk_42_method_149_code, exceptionTable := #[], attributes := #[] }
def k7m6 : Method := { name := "<init>", desc := "([CIILjava/lang/Void;)V", sig := { parameters := [(.array .char), .int, .int, (.object "java/lang/Void")], returnType := none }, accessFlags := 2, code := some k7c6 }
def k7c7 : Code := { maxStack := 2, maxLocals := 3, code := jdk_42_method_151_code, exceptionTable := #[], attributes := #[] }
def k7m7 : Method := { name := "<init>", desc := "([BB)V", sig := { parameters := [(.array .byte), .byte], returnType := none }, accessFlags := 0, code := some k7c7 }
def k7c8 : Code := { maxStack := 1, maxLocals := 1, code := jdk_42_method_152_code, exceptionTable := #[], attributes := #[] }
def k7m8 : Method := { name := "coder", desc := "()B", sig := { parameters := [], returnType := some .byte }, accessFlags := 0, code := some k7c8 }
def k7c9 : Code := { maxStack := 1, maxLocals := 1, code := jdk_42_method_154_code, exceptionTable := #[], attributes := #[] }
def k7m9 : Method := { name := "isLatin1", desc := "()Z", sig := { parameters := [], returnType := some .boolean }, accessFlags := 0, code := some k7c9 }
def k7c10 : Code := { maxStack := 3, maxLocals := 2, code := jdk_42_method_155_code, exceptionTable := #[], attributes := #[] }
def k7m10 : Method := { name := "checkIndex", desc := "(II)V", sig := { parameters := [.int, .int], returnType := none }, accessFlags := 8, code := some k7c10 }
/-- java/lang/String -/
def k7 : Class := { plain "java/lang/String" (some 0) with
  accessFlags := 49
  interfaces := #[2, 3, 4, 5, 6]
  cf := some (fileOf pool7 10 #[.nestMembers #[1103]] #[{ accessFlags := 1, nameIndex := 5, descriptorIndex := 6, attributes := #[] }, { accessFlags := 1, nameIndex := 5, descriptorIndex := 1010, attributes := #[] }, { accessFlags := 1, nameIndex := 507, descriptorIndex := 334, attributes := #[] }, { accessFlags := 1, nameIndex := 692, descriptorIndex := 142, attributes := #[] }, { accessFlags := 1, nameIndex := 497, descriptorIndex := 427, attributes := #[] }, { accessFlags := 9, nameIndex := 782, descriptorIndex := 783, attributes := #[] }, { accessFlags := 2, nameIndex := 5, descriptorIndex := 29, attributes := #[] }, { accessFlags := 0, nameIndex := 5, descriptorIndex := 211, attributes := #[] }, { accessFlags := 0, nameIndex := 17, descriptorIndex := 337, attributes := #[] }, { accessFlags := 0, nameIndex := 494, descriptorIndex := 142, attributes := #[] }, { accessFlags := 8, nameIndex := 501, descriptorIndex := 391, attributes := #[] }] 49 2 #[1106, 1108, 575, 1110, 1112] #[{ accessFlags := 18, nameIndex := 13, descriptorIndex := 14, attributes := #[] }, { accessFlags := 18, nameIndex := 17, descriptorIndex := 18, attributes := #[] }, { accessFlags := 2, nameIndex := 21, descriptorIndex := 22, attributes := #[] }, { accessFlags := 2, nameIndex := 25, descriptorIndex := 26, attributes := #[] }, { accessFlags := 26, nameIndex := 1116, descriptorIndex := 1117, attributes := #[] }, { accessFlags := 24, nameIndex := 40, descriptorIndex := 26, attributes := #[] }, { accessFlags := 26, nameIndex := 1101, descriptorIndex := 1102, attributes := #[] }, { accessFlags := 26, nameIndex := 1121, descriptorIndex := 1122, attributes := #[] }, { accessFlags := 25, nameIndex := 599, descriptorIndex := 600, attributes := #[] }, { accessFlags := 24, nameIndex := 1125, descriptorIndex := 18, attributes := #[] }, { accessFlags := 24, nameIndex := 1127, descriptorIndex := 18, attributes := #[] }])
  fields := #[{ name := "value", type := (.array .byte), accessFlags := 18, slot := 0, constantValue := 0 }, { name := "coder", type := .byte, accessFlags := 18, slot := 1, constantValue := 0 }, { name := "hash", type := .int, accessFlags := 2, slot := 2, constantValue := 0 }, { name := "hashIsZero", type := .boolean, accessFlags := 2, slot := 3, constantValue := 0 }, { name := "serialVersionUID", type := .long, accessFlags := 26, slot := 0, constantValue := 0 }, { name := "COMPACT_STRINGS", type := .boolean, accessFlags := 24, slot := 1, constantValue := 0 }, { name := "serialPersistentFields", type := (.array (.object "java/io/ObjectStreamField")), accessFlags := 26, slot := 2, constantValue := 0 }, { name := "REPL", type := .char, accessFlags := 26, slot := 3, constantValue := 0 }, { name := "CASE_INSENSITIVE_ORDER", type := (.object "java/util/Comparator"), accessFlags := 25, slot := 4, constantValue := 0 }, { name := "LATIN1", type := .byte, accessFlags := 24, slot := 5, constantValue := 0 }, { name := "UTF16", type := .byte, accessFlags := 24, slot := 6, constantValue := 0 }]
  methods := #[k7m0, k7m1, k7m2, k7m3, k7m4, k7m5, k7m6, k7m7, k7m8, k7m9, k7m10]
  instanceTypes := #[(.array .byte), .byte, .int, .boolean]
  staticTypes := #[.long, .boolean, (.array (.object "java/io/ObjectStreamField")), .char, (.object "java/util/Comparator"), .byte, .byte]
  resolved := Array.replicate 1451 none
  statics := some 0 }

def pool8 : Array CpInfo := pool [(3, .class_ 4), (0, u "java/lang/String"), (1, .class_ 8), (1, u "java/lang/Object"), (0, u "<init>"), (0, u "()V"), (0, .methodref 12 13), (0, .class_ 14), (0, .nameAndType 15 16), (0, u "java/lang/StringUTF16"), (0, u "newBytesLength"), (0, u "(I)I"), (3, .integer 1073741823), (23, .fieldref 12 45), (0, .nameAndType 46 47), (0, u "$assertionsDisabled"), (0, u "Z"), (0, .methodref 12 49), (0, .nameAndType 50 51), (0, u "length"), (0, u "([B)I"), (7, .fieldref 12 60), (0, .nameAndType 61 62), (0, u "HI_BYTE_SHIFT"), (0, u "I"), (0, .fieldref 12 64), (0, .nameAndType 65 62), (0, u "LO_BYTE_SHIFT"), (1, .methodref 12 68), (0, .nameAndType 69 70), (0, u "checkIndex"), (0, u "(I[B)V"), (0, .methodref 12 72), (0, .nameAndType 73 74), (0, u "getChar"), (0, u "([BI)C"), (32, .methodref 12 108), (0, .nameAndType 109 110), (0, u "newBytesFor"), (0, u "(I)[B"), (0, .methodref 12 112), (0, .nameAndType 113 114), (0, u "putChar"), (0, u "([BII)V"), (0, .methodref 12 116), (0, .nameAndType 117 118), (0, u "compress"), (0, u "([CI[BII)I"), (0, .methodref 12 120), (0, .nameAndType 121 122), (0, u "toBytes"), (0, u "([CII)[B"), (138, u "coderFromArrayLen"), (0, u "([BI)B"), (106, .class_ 371), (1, u "java/lang/StringUTF16$LinesSpliterator"), (20, u "charAt"), (21, .methodref 3 415), (0, .nameAndType 69 416), (0, u "(II)V"), (13, u "MAX_LENGTH"), (196, .class_ 628), (0, u "java/lang/StringUTF16$CodePointsSpliterator"), (0, .class_ 630), (0, u "java/lang/StringUTF16$CharsSpliterator")] 4

def k8m0 : Method := { name := "<init>", desc := "()V", sig := { parameters := [], returnType := none }, accessFlags := 0, code := none }
def k8c1 : Code := { maxStack := 1, maxLocals := 1, code := jdk_52_method_2_code, exceptionTable := #[], attributes := #[] }
def k8m1 : Method := { name := "newBytesFor", desc := "(I)[B", sig := { parameters := [.int], returnType := some (.array .byte) }, accessFlags := 9, code := some k8c1 }
def k8c2 : Code := { maxStack := 4, maxLocals := 1, code := jdk_52_method_3_code, exceptionTable := #[], attributes := #[] }
def k8m2 : Method := { name := "newBytesLength", desc := "(I)I", sig := { parameters := [.int], returnType := some .int }, accessFlags := 9, code := some k8c2 }
def k8c3 : Code := { maxStack := 4, maxLocals := 3, code := jdk_52_method_4_code, exceptionTable := #[], attributes := #[] }
def k8m3 : Method := { name := "putChar", desc := "([BII)V", sig := { parameters := [(.array .byte), .int, .int], returnType := none }, accessFlags := 8, code := some k8c3 }
def k8c4 : Code := { maxStack := 3, maxLocals := 2, code := jdk_52_method_5_code, exceptionTable := #[], attributes := #[] }
def k8m4 : Method := { name := "getChar", desc := "([BI)C", sig := { parameters := [(.array .byte), .int], returnType := some .char }, accessFlags := 8, code := some k8c4 }
def k8c5 : Code := { maxStack := 2, maxLocals := 1, code := jdk_52_method_6_code, exceptionTable := #[], attributes := #[] }
def k8m5 : Method := { name := "length", desc := "([B)I", sig := { parameters := [(.array .byte)], returnType := some .int }, accessFlags := 9, code := some k8c5 }
def k8c6 : Code := { maxStack := 4, maxLocals := 5, code := jdk_52_method_14_code, exceptionTable := #[], attributes := #[] }
def k8m6 : Method := { name := "toBytes", desc := "([CII)[B", sig := { parameters := [(.array .char), .int, .int], returnType := some (.array .byte) }, accessFlags := 9, code := some k8c6 }
def k8c7 : Code := { maxStack := 2, maxLocals := 2, code := jdk_52_method_15_code, exceptionTable := #[], attributes := #[] }
def k8m7 : Method := { name := "coderFromArrayLen", desc := "([BI)B", sig := { parameters := [(.array .byte), .int], returnType := some .byte }, accessFlags := 8, code := some k8c7 }
def k8c8 : Code := { maxStack := 5, maxLocals := 6, code := jdk_52_method_16_code, exceptionTable := #[], attributes := #[] }
def k8m8 : Method := { name := "compress", desc := "([CII)[B", sig := { parameters := [(.array .char), .int, .int], returnType := some (.array .byte) }, accessFlags := 9, code := some k8c8 }
def k8c9 : Code := { maxStack := 3, maxLocals := 7, code := jdk_52_method_21_code, exceptionTable := #[], attributes := #[] }
def k8m9 : Method := { name := "compress", desc := "([CI[BII)I", sig := { parameters := [(.array .char), .int, (.array .byte), .int, .int], returnType := some .int }, accessFlags := 9, code := some k8c9 }
def k8c10 : Code := { maxStack := 2, maxLocals := 2, code := jdk_52_method_83_code, exceptionTable := #[], attributes := #[] }
def k8m10 : Method := { name := "charAt", desc := "([BI)C", sig := { parameters := [(.array .byte), .int], returnType := some .char }, accessFlags := 9, code := some k8c10 }
def k8c11 : Code := { maxStack := 2, maxLocals := 2, code := jdk_52_method_91_code, exceptionTable := #[], attributes := #[] }
def k8m11 : Method := { name := "checkIndex", desc := "(I[B)V", sig := { parameters := [.int, (.array .byte)], returnType := none }, accessFlags := 9, code := some k8c11 }
/-- java/lang/StringUTF16 -/
def k8 : Class := { plain "java/lang/StringUTF16" (some 0) with
  accessFlags := 48
  interfaces := #[]
  cf := some (fileOf pool8 12 #[.nestMembers #[627, 629, 369]] #[{ accessFlags := 0, nameIndex := 9, descriptorIndex := 10, attributes := #[] }, { accessFlags := 9, nameIndex := 109, descriptorIndex := 110, attributes := #[] }, { accessFlags := 9, nameIndex := 15, descriptorIndex := 16, attributes := #[] }, { accessFlags := 8, nameIndex := 113, descriptorIndex := 114, attributes := #[] }, { accessFlags := 8, nameIndex := 73, descriptorIndex := 74, attributes := #[] }, { accessFlags := 9, nameIndex := 50, descriptorIndex := 51, attributes := #[] }, { accessFlags := 9, nameIndex := 121, descriptorIndex := 122, attributes := #[] }, { accessFlags := 8, nameIndex := 261, descriptorIndex := 262, attributes := #[] }, { accessFlags := 9, nameIndex := 117, descriptorIndex := 122, attributes := #[] }, { accessFlags := 9, nameIndex := 117, descriptorIndex := 118, attributes := #[] }, { accessFlags := 9, nameIndex := 392, descriptorIndex := 74, attributes := #[] }, { accessFlags := 9, nameIndex := 69, descriptorIndex := 70, attributes := #[] }] 48 6 #[] #[{ accessFlags := 26, nameIndex := 61, descriptorIndex := 62, attributes := #[] }, { accessFlags := 26, nameIndex := 65, descriptorIndex := 62, attributes := #[] }, { accessFlags := 24, nameIndex := 430, descriptorIndex := 62, attributes := #[] }, { accessFlags := 4120, nameIndex := 46, descriptorIndex := 47, attributes := #[] }])
  fields := #[{ name := "HI_BYTE_SHIFT", type := .int, accessFlags := 26, slot := 0, constantValue := 0 }, { name := "LO_BYTE_SHIFT", type := .int, accessFlags := 26, slot := 1, constantValue := 0 }, { name := "MAX_LENGTH", type := .int, accessFlags := 24, slot := 2, constantValue := 0 }, { name := "$assertionsDisabled", type := .boolean, accessFlags := 4120, slot := 3, constantValue := 0 }]
  methods := #[k8m0, k8m1, k8m2, k8m3, k8m4, k8m5, k8m6, k8m7, k8m8, k8m9, k8m10, k8m11]
  instanceTypes := #[]
  staticTypes := #[.int, .int, .int, .boolean]
  resolved := Array.replicate 635 none
  statics := some 1 }

def pool9 : Array CpInfo := pool [(1, .class_ 2), (0, u "java/lang/String"), (1, .class_ 6), (1, u "java/lang/Object"), (0, u "<init>"), (0, u "()V"), (0, .methodref 1 10), (0, .nameAndType 11 12), (0, u "checkIndex"), (0, u "(II)V"), (1, .class_ 16), (1, u "java/lang/StringLatin1"), (36, u "([BI)C"), (36, u "canEncode"), (14, u "(C)Z"), (15, u "$assertionsDisabled"), (0, u "Z"), (98, .class_ 223), (1, u "java/lang/StringLatin1$LinesSpliterator"), (28, u "charAt"), (127, u "toBytes"), (1, u "(C)[B"), (7, .class_ 391), (0, u "java/lang/StringLatin1$CharsSpliterator")] 3

def k9m0 : Method := { name := "<init>", desc := "()V", sig := { parameters := [], returnType := none }, accessFlags := 0, code := none }
def k9c1 : Code := { maxStack := 2, maxLocals := 2, code := jdk_43_method_2_code, exceptionTable := #[], attributes := #[] }
def k9m1 : Method := { name := "charAt", desc := "([BI)C", sig := { parameters := [(.array .byte), .int], returnType := some .char }, accessFlags := 9, code := some k9c1 }
def k9c2 : Code := { maxStack := 2, maxLocals := 1, code := jdk_43_method_3_code, exceptionTable := #[], attributes := #[] }
def k9m2 : Method := { name := "canEncode", desc := "(C)Z", sig := { parameters := [.char], returnType := some .boolean }, accessFlags := 9, code := some k9c2 }
def k9c3 : Code := { maxStack := 4, maxLocals := 1, code := jdk_43_method_46_code, exceptionTable := #[], attributes := #[] }
def k9m3 : Method := { name := "toBytes", desc := "(C)[B", sig := { parameters := [.char], returnType := some (.array .byte) }, accessFlags := 9, code := some k9c3 }
/-- java/lang/StringLatin1 -/
def k9 : Class := { plain "java/lang/StringLatin1" (some 0) with
  accessFlags := 48
  interfaces := #[]
  cf := some (fileOf pool9 14 #[.nestMembers #[390, 221]] #[{ accessFlags := 0, nameIndex := 7, descriptorIndex := 8, attributes := #[] }, { accessFlags := 9, nameIndex := 252, descriptorIndex := 53, attributes := #[] }, { accessFlags := 9, nameIndex := 90, descriptorIndex := 105, attributes := #[] }, { accessFlags := 9, nameIndex := 380, descriptorIndex := 382, attributes := #[] }] 48 4 #[] #[{ accessFlags := 4120, nameIndex := 121, descriptorIndex := 122, attributes := #[] }])
  fields := #[{ name := "$assertionsDisabled", type := .boolean, accessFlags := 4120, slot := 0, constantValue := 0 }]
  methods := #[k9m0, k9m1, k9m2, k9m3]
  instanceTypes := #[]
  staticTypes := #[.boolean]
  resolved := Array.replicate 395 none
  statics := none }

def pool10 : Array CpInfo := pool [(2, .class_ 4), (1, u "java/lang/Object"), (0, u "<init>"), (0, u "()V"), (0, .methodref 8 9), (0, .class_ 10), (0, .nameAndType 11 12), (0, u "com/example/turnwise/turnwise/input/Ids"), (0, u "isId"), (0, u "(Ljava/lang/String;)Z"), (4, .methodref 18 19), (0, .class_ 20), (0, .nameAndType 21 22), (0, u "java/lang/String"), (0, u "isEmpty"), (0, u "()Z"), (0, .methodref 18 24), (0, .nameAndType 25 26), (0, u "length"), (0, u "()I"), (0, .methodref 18 28), (0, .nameAndType 29 30), (0, u "charAt"), (0, u "(I)C"), (0, .methodref 32 33), (0, .class_ 34), (0, .nameAndType 35 36), (0, u "java/lang/Character"), (0, u "isISOControl"), (0, u "(C)Z"), (41, u "(Ljava/lang/String;Ljava/lang/String;)Ljava/lang/String;"), (2, u "check")] 25

def k10m0 : Method := { name := "<init>", desc := "()V", sig := { parameters := [], returnType := none }, accessFlags := 2, code := none }
def k10c1 : Code := { maxStack := 1, maxLocals := 2, code := prog_28_method_2_code, exceptionTable := #[], attributes := #[] }
def k10m1 : Method := { name := "check", desc := "(Ljava/lang/String;Ljava/lang/String;)Ljava/lang/String;", sig := { parameters := [(.object "java/lang/String"), (.object "java/lang/String")], returnType := some (.object "java/lang/String") }, accessFlags := 9, code := some k10c1 }
def k10c2 : Code := { maxStack := 2, maxLocals := 3, code := prog_28_method_3_code, exceptionTable := #[], attributes := #[] }
def k10m2 : Method := { name := "isId", desc := "(Ljava/lang/String;)Z", sig := { parameters := [(.object "java/lang/String")], returnType := some .boolean }, accessFlags := 9, code := some k10c2 }
/-- com/example/turnwise/turnwise/input/Ids -/
def k10 : Class := { plain "com/example/turnwise/turnwise/input/Ids" (some 0) with
  accessFlags := 49
  interfaces := #[]
  cf := some (fileOf pool10 8 #[] #[{ accessFlags := 2, nameIndex := 5, descriptorIndex := 6, attributes := #[] }, { accessFlags := 9, nameIndex := 81, descriptorIndex := 78, attributes := #[] }, { accessFlags := 9, nameIndex := 11, descriptorIndex := 12, attributes := #[] }] 49 2 #[] #[])
  fields := #[]
  methods := #[k10m0, k10m1, k10m2]
  instanceTypes := #[]
  staticTypes := #[]
  resolved := Array.replicate 107 none
  statics := none }

def pool11 : Array CpInfo := pool [(2, .class_ 4), (1, u "java/lang/Object"), (0, u "<init>"), (0, u "()V"), (17, .class_ 26), (1, u "jdk/internal/util/Preconditions"), (6, u "checkIndex"), (21, .class_ 56), (0, u "jdk/internal/util/Preconditions$4"), (57, .class_ 115), (0, u "jdk/internal/util/Preconditions$1"), (7, u "SIOOBE_FORMATTER"), (0, u "Ljava/util/function/BiFunction;"), (0, .class_ 126), (0, u "jdk/internal/util/Preconditions$2"), (3, u "AIOOBE_FORMATTER"), (0, .class_ 132), (0, u "jdk/internal/util/Preconditions$3"), (3, u "IOOBE_FORMATTER"), (41, u "(IILjava/util/function/BiFunction;)I")] 15

def k11m0 : Method := { name := "<init>", desc := "()V", sig := { parameters := [], returnType := none }, accessFlags := 1, code := none }
def k11c1 : Code := { maxStack := 3, maxLocals := 3, code := jdk_41_method_11_code, exceptionTable := #[], attributes := #[] }
def k11m1 : Method := { name := "checkIndex", desc := "(IILjava/util/function/BiFunction;)I", sig := { parameters := [.int, .int, (.object "java/util/function/BiFunction")], returnType := some .int }, accessFlags := 9, code := some k11c1 }
/-- jdk/internal/util/Preconditions -/
def k11 : Class := { plain "jdk/internal/util/Preconditions" (some 0) with
  accessFlags := 33
  interfaces := #[]
  cf := some (fileOf pool11 24 #[.nestMembers #[55, 131, 125, 114]] #[{ accessFlags := 1, nameIndex := 5, descriptorIndex := 6, attributes := #[] }, { accessFlags := 9, nameIndex := 33, descriptorIndex := 178, attributes := #[] }] 33 2 #[] #[{ accessFlags := 25, nameIndex := 123, descriptorIndex := 124, attributes := #[] }, { accessFlags := 25, nameIndex := 130, descriptorIndex := 124, attributes := #[] }, { accessFlags := 25, nameIndex := 136, descriptorIndex := 124, attributes := #[] }])
  fields := #[{ name := "SIOOBE_FORMATTER", type := (.object "java/util/function/BiFunction"), accessFlags := 25, slot := 0, constantValue := 0 }, { name := "AIOOBE_FORMATTER", type := (.object "java/util/function/BiFunction"), accessFlags := 25, slot := 1, constantValue := 0 }, { name := "IOOBE_FORMATTER", type := (.object "java/util/function/BiFunction"), accessFlags := 25, slot := 2, constantValue := 0 }]
  methods := #[k11m0, k11m1]
  instanceTypes := #[]
  staticTypes := #[(.object "java/util/function/BiFunction"), (.object "java/util/function/BiFunction"), (.object "java/util/function/BiFunction")]
  resolved := Array.replicate 194 none
  statics := some 2 }

def pool12 : Array CpInfo := pool [(1, .class_ 2), (0, u "java/lang/Character"), (18, u "value"), (0, u "C"), (19, .class_ 44), (1, u "java/lang/Object"), (3, .class_ 50), (1, u "java/lang/Character$CharacterCache"), (30, u "(C)Z"), (32, u "(I)Z"), (151, .methodref 1 267), (0, .nameAndType 268 114), (0, u "isISOControl"), (15, u "$assertionsDisabled"), (0, u "Z"), (21, .class_ 309), (1, u "java/lang/Character$UnicodeBlock"), (73, u "TYPE"), (0, u "Ljava/lang/Class;"), (0, .class_ 386), (0, u "java/io/Serializable"), (0, .class_ 388), (0, u "java/lang/Comparable"), (0, .class_ 390), (0, u "java/lang/constant/Constable"), (0, u "MIN_RADIX"), (0, u "I"), (2, u "MAX_RADIX"), (1, u "MIN_VALUE"), (1, u "MAX_VALUE"), (3, u "UNASSIGNED"), (0, u "B"), (0, u "UPPERCASE_LETTER"), (1, u "LOWERCASE_LETTER"), (0, u "TITLECASE_LETTER"), (1, u "MODIFIER_LETTER"), (1, u "OTHER_LETTER"), (1, u "NON_SPACING_MARK"), (1, u "ENCLOSING_MARK"), (1, u "COMBINING_SPACING_MARK"), (1, u "DECIMAL_DIGIT_NUMBER"), (1, u "LETTER_NUMBER"), (1, u "OTHER_NUMBER"), (1, u "SPACE_SEPARATOR"), (1, u "LINE_SEPARATOR"), (1, u "PARAGRAPH_SEPARATOR"), (1, u "CONTROL"), (1, u "FORMAT"), (1, u "PRIVATE_USE"), (1, u "SURROGATE"), (1, u "DASH_PUNCTUATION"), (1, u "START_PUNCTUATION"), (1, u "END_PUNCTUATION"), (1, u "CONNECTOR_PUNCTUATION"), (1, u "OTHER_PUNCTUATION"), (1, u "MATH_SYMBOL"), (1, u "CURRENCY_SYMBOL"), (1, u "MODIFIER_SYMBOL"), (1, u "OTHER_SYMBOL"), (1, u "INITIAL_QUOTE_PUNCTUATION"), (1, u "FINAL_QUOTE_PUNCTUATION"), (1, u "ERROR"), (1, u "DIRECTIONALITY_UNDEFINED"), (0, u "DIRECTIONALITY_LEFT_TO_RIGHT"), (0, u "DIRECTIONALITY_RIGHT_TO_LEFT"), (0, u "DIRECTIONALITY_RIGHT_TO_LEFT_ARABIC"), (0, u "DIRECTIONALITY_EUROPEAN_NUMBER"), (0, u "DIRECTIONALITY_EUROPEAN_NUMBER_SEPARATOR"), (0, u "DIRECTIONALITY_EUROPEAN_NUMBER_TERMINATOR"), (0, u "DIRECTIONALITY_ARABIC_NUMBER"), (0, u "DIRECTIONALITY_COMMON_NUMBER_SEPARATOR"), (0, u "DIRECTIONALITY_NONSPACING_MARK"), (0, u "DIRECTIONALITY_BOUNDARY_NEUTRAL"), (0, u "DIRECTIONALITY_PARAGRAPH_SEPARATOR"), (0, u "DIRECTIONALITY_SEGMENT_SEPARATOR"), (0, u "DIRECTIONALITY_WHITESPACE"), (0, u "DIRECTIONALITY_OTHER_NEUTRALS"), (0, u "DIRECTIONALITY_LEFT_TO_RIGHT_EMBEDDING"), (0, u "DIRECTIONALITY_LEFT_TO_RIGHT_OVERRIDE"), (0, u "DIRECTIONALITY_RIGHT_TO_LEFT_EMBEDDING"), (0, u "DIRECTIONALITY_RIGHT_TO_LEFT_OVERRIDE"), (1, u "DIRECTIONALITY_POP_DIRECTIONAL_FORMAT"), (0, u "DIRECTIONALITY_LEFT_TO_RIGHT_ISOLATE"), (0, u "DIRECTIONALITY_RIGHT_TO_LEFT_ISOLATE"), (0, u "DIRECTIONALITY_FIRST_STRONG_ISOLATE"), (0, u "DIRECTIONALITY_POP_DIRECTIONAL_ISOLATE"), (0, u "MIN_HIGH_SURROGATE"), (0, u "MAX_HIGH_SURROGATE"), (1, u "MIN_LOW_SURROGATE"), (0, u "MAX_LOW_SURROGATE"), (1, u "MIN_SURROGATE"), (0, u "MAX_SURROGATE"), (0, u "MIN_SUPPLEMENTARY_CODE_POINT"), (0, u "MIN_CODE_POINT"), (0, u "MAX_CODE_POINT"), (1, u "serialVersionUID"), (0, u "J"), (2, u "SIZE"), (0, u "BYTES"), (88, .class_ 596), (0, u "java/lang/Character$UnicodeScript"), (0, .class_ 598), (0, u "java/lang/Character$Subset")] 5

def k12c0 : Code := { maxStack := 1, maxLocals := 1, code := jdk_89_method_88_code, exceptionTable := #[], attributes := #[] }
def k12m0 : Method := { name := "isISOControl", desc := "(C)Z", sig := { parameters := [.char], returnType := some .boolean }, accessFlags := 9, code := some k12c0 }
def k12c1 : Code := { maxStack := 2, maxLocals := 1, code := jdk_89_method_89_code, exceptionTable := #[], attributes := #[] }
def k12m1 : Method := { name := "isISOControl", desc := "(I)Z", sig := { parameters := [.int], returnType := some .boolean }, accessFlags := 9, code := some k12c1 }
/-- java/lang/Character -/
def k12 : Class := { plain "java/lang/Character" (some 0) with
  accessFlags := 49
  interfaces := #[2, 3, 5]
  cf := some (fileOf pool12 1 #[.nestMembers #[48, 595, 307, 597]] #[{ accessFlags := 9, nameIndex := 268, descriptorIndex := 81, attributes := #[] }, { accessFlags := 9, nameIndex := 268, descriptorIndex := 114, attributes := #[] }] 49 42 #[385, 387, 389] #[{ accessFlags := 25, nameIndex := 391, descriptorIndex := 392, attributes := #[] }, { accessFlags := 25, nameIndex := 395, descriptorIndex := 392, attributes := #[] }, { accessFlags := 25, nameIndex := 397, descriptorIndex := 22, attributes := #[] }, { accessFlags := 25, nameIndex := 399, descriptorIndex := 22, attributes := #[] }, { accessFlags := 25, nameIndex := 383, descriptorIndex := 384, attributes := #[] }, { accessFlags := 25, nameIndex := 403, descriptorIndex := 404, attributes := #[] }, { accessFlags := 25, nameIndex := 405, descriptorIndex := 404, attributes := #[] }, { accessFlags := 25, nameIndex := 407, descriptorIndex := 404, attributes := #[] }, { accessFlags := 25, nameIndex := 408, descriptorIndex := 404, attributes := #[] }, { accessFlags := 25, nameIndex := 410, descriptorIndex := 404, attributes := #[] }, { accessFlags := 25, nameIndex := 412, descriptorIndex := 404, attributes := #[] }, { accessFlags := 25, nameIndex := 414, descriptorIndex := 404, attributes := #[] }, { accessFlags := 25, nameIndex := 416, descriptorIndex := 404, attributes := #[] }, { accessFlags := 25, nameIndex := 418, descriptorIndex := 404, attributes := #[] }, { accessFlags := 25, nameIndex := 420, descriptorIndex := 404, attributes := #[] }, { accessFlags := 25, nameIndex := 422, descriptorIndex := 404, attributes := #[] }, { accessFlags := 25, nameIndex := 424, descriptorIndex := 404, attributes := #[] }, { accessFlags := 25, nameIndex := 426, descriptorIndex := 404, attributes := #[] }, { accessFlags := 25, nameIndex := 428, descriptorIndex := 404, attributes := #[] }, { accessFlags := 25, nameIndex := 430, descriptorIndex := 404, attributes := #[] }, { accessFlags := 25, nameIndex := 432, descriptorIndex := 404, attributes := #[] }, { accessFlags := 25, nameIndex := 434, descriptorIndex := 404, attributes := #[] }, { accessFlags := 25, nameIndex := 436, descriptorIndex := 404, attributes := #[] }, { accessFlags := 25, nameIndex := 438, descriptorIndex := 404, attributes := #[] }, { accessFlags := 25, nameIndex := 440, descriptorIndex := 404, attributes := #[] }, { accessFlags := 25, nameIndex := 442, descriptorIndex := 404, attributes := #[] }, { accessFlags := 25, nameIndex := 444, descriptorIndex := 404, attributes := #[] }, { accessFlags := 25, nameIndex := 446, descriptorIndex := 404, attributes := #[] }, { accessFlags := 25, nameIndex := 448, descriptorIndex := 404, attributes := #[] }, { accessFlags := 25, nameIndex := 450, descriptorIndex := 404, attributes := #[] }, { accessFlags := 25, nameIndex := 452, descriptorIndex := 404, attributes := #[] }, { accessFlags := 25, nameIndex := 454, descriptorIndex := 404, attributes := #[] }, { accessFlags := 25, nameIndex := 456, descriptorIndex := 404, attributes := #[] }, { accessFlags := 25, nameIndex := 458, descriptorIndex := 404, attributes := #[] }, { accessFlags := 25, nameIndex := 460, descriptorIndex := 404, attributes := #[] }, { accessFlags := 24, nameIndex := 462, descriptorIndex := 392, attributes := #[] }, { accessFlags := 25, nameIndex := 464, descriptorIndex := 404, attributes := #[] }, { accessFlags := 25, nameIndex := 465, descriptorIndex := 404, attributes := #[] }, { accessFlags := 25, nameIndex := 466, descriptorIndex := 404, attributes := #[] }, { accessFlags := 25, nameIndex := 467, descriptorIndex := 404, attributes := #[] }, { accessFlags := 25, nameIndex := 468, descriptorIndex := 404, attributes := #[] }, { accessFlags := 25, nameIndex := 469, descriptorIndex := 404, attributes := #[] }, { accessFlags := 25, nameIndex := 470, descriptorIndex := 404, attributes := #[] }, { accessFlags := 25, nameIndex := 471, descriptorIndex := 404, attributes := #[] }, { accessFlags := 25, nameIndex := 472, descriptorIndex := 404, attributes := #[] }, { accessFlags := 25, nameIndex := 473, descriptorIndex := 404, attributes := #[] }, { accessFlags := 25, nameIndex := 474, descriptorIndex := 404, attributes := #[] }, { accessFlags := 25, nameIndex := 475, descriptorIndex := 404, attributes := #[] }, { accessFlags := 25, nameIndex := 476, descriptorIndex := 404, attributes := #[] }, { accessFlags := 25, nameIndex := 477, descriptorIndex := 404, attributes := #[] }, { accessFlags := 25, nameIndex := 478, descriptorIndex := 404, attributes := #[] }, { accessFlags := 25, nameIndex := 479, descriptorIndex := 404, attributes := #[] }, { accessFlags := 25, nameIndex := 480, descriptorIndex := 404, attributes := #[] }, { accessFlags := 25, nameIndex := 481, descriptorIndex := 404, attributes := #[] }, { accessFlags := 25, nameIndex := 482, descriptorIndex := 404, attributes := #[] }, { accessFlags := 25, nameIndex := 484, descriptorIndex := 404, attributes := #[] }, { accessFlags := 25, nameIndex := 485, descriptorIndex := 404, attributes := #[] }, { accessFlags := 25, nameIndex := 486, descriptorIndex := 404, attributes := #[] }, { accessFlags := 25, nameIndex := 487, descriptorIndex := 404, attributes := #[] }, { accessFlags := 25, nameIndex := 488, descriptorIndex := 404, attributes := #[] }, { accessFlags := 25, nameIndex := 489, descriptorIndex := 22, attributes := #[] }, { accessFlags := 25, nameIndex := 490, descriptorIndex := 22, attributes := #[] }, { accessFlags := 25, nameIndex := 492, descriptorIndex := 22, attributes := #[] }, { accessFlags := 25, nameIndex := 493, descriptorIndex := 22, attributes := #[] }, { accessFlags := 25, nameIndex := 495, descriptorIndex := 22, attributes := #[] }, { accessFlags := 25, nameIndex := 496, descriptorIndex := 22, attributes := #[] }, { accessFlags := 25, nameIndex := 497, descriptorIndex := 392, attributes := #[] }, { accessFlags := 25, nameIndex := 498, descriptorIndex := 392, attributes := #[] }, { accessFlags := 25, nameIndex := 499, descriptorIndex := 392, attributes := #[] }, { accessFlags := 18, nameIndex := 21, descriptorIndex := 22, attributes := #[] }, { accessFlags := 26, nameIndex := 501, descriptorIndex := 502, attributes := #[] }, { accessFlags := 25, nameIndex := 505, descriptorIndex := 392, attributes := #[] }, { accessFlags := 25, nameIndex := 506, descriptorIndex := 392, attributes := #[] }, { accessFlags := 4120, nameIndex := 284, descriptorIndex := 285, attributes := #[] }])
  fields := #[{ name := "MIN_RADIX", type := .int, accessFlags := 25, slot := 0, constantValue := 0 }, { name := "MAX_RADIX", type := .int, accessFlags := 25, slot := 1, constantValue := 0 }, { name := "MIN_VALUE", type := .char, accessFlags := 25, slot := 2, constantValue := 0 }, { name := "MAX_VALUE", type := .char, accessFlags := 25, slot := 3, constantValue := 0 }, { name := "TYPE", type := (.object "java/lang/Class"), accessFlags := 25, slot := 4, constantValue := 0 }, { name := "UNASSIGNED", type := .byte, accessFlags := 25, slot := 5, constantValue := 0 }, { name := "UPPERCASE_LETTER", type := .byte, accessFlags := 25, slot := 6, constantValue := 0 }, { name := "LOWERCASE_LETTER", type := .byte, accessFlags := 25, slot := 7, constantValue := 0 }, { name := "TITLECASE_LETTER", type := .byte, accessFlags := 25, slot := 8, constantValue := 0 }, { name := "MODIFIER_LETTER", type := .byte, accessFlags := 25, slot := 9, constantValue := 0 }, { name := "OTHER_LETTER", type := .byte, accessFlags := 25, slot := 10, constantValue := 0 }, { name := "NON_SPACING_MARK", type := .byte, accessFlags := 25, slot := 11, constantValue := 0 }, { name := "ENCLOSING_MARK", type := .byte, accessFlags := 25, slot := 12, constantValue := 0 }, { name := "COMBINING_SPACING_MARK", type := .byte, accessFlags := 25, slot := 13, constantValue := 0 }, { name := "DECIMAL_DIGIT_NUMBER", type := .byte, accessFlags := 25, slot := 14, constantValue := 0 }, { name := "LETTER_NUMBER", type := .byte, accessFlags := 25, slot := 15, constantValue := 0 }, { name := "OTHER_NUMBER", type := .byte, accessFlags := 25, slot := 16, constantValue := 0 }, { name := "SPACE_SEPARATOR", type := .byte, accessFlags := 25, slot := 17, constantValue := 0 }, { name := "LINE_SEPARATOR", type := .byte, accessFlags := 25, slot := 18, constantValue := 0 }, { name := "PARAGRAPH_SEPARATOR", type := .byte, accessFlags := 25, slot := 19, constantValue := 0 }, { name := "CONTROL", type := .byte, accessFlags := 25, slot := 20, constantValue := 0 }, { name := "FORMAT", type := .byte, accessFlags := 25, slot := 21, constantValue := 0 }, { name := "PRIVATE_USE", type := .byte, accessFlags := 25, slot := 22, constantValue := 0 }, { name := "SURROGATE", type := .byte, accessFlags := 25, slot := 23, constantValue := 0 }, { name := "DASH_PUNCTUATION", type := .byte, accessFlags := 25, slot := 24, constantValue := 0 }, { name := "START_PUNCTUATION", type := .byte, accessFlags := 25, slot := 25, constantValue := 0 }, { name := "END_PUNCTUATION", type := .byte, accessFlags := 25, slot := 26, constantValue := 0 }, { name := "CONNECTOR_PUNCTUATION", type := .byte, accessFlags := 25, slot := 27, constantValue := 0 }, { name := "OTHER_PUNCTUATION", type := .byte, accessFlags := 25, slot := 28, constantValue := 0 }, { name := "MATH_SYMBOL", type := .byte, accessFlags := 25, slot := 29, constantValue := 0 }, { name := "CURRENCY_SYMBOL", type := .byte, accessFlags := 25, slot := 30, constantValue := 0 }, { name := "MODIFIER_SYMBOL", type := .byte, accessFlags := 25, slot := 31, constantValue := 0 }, { name := "OTHER_SYMBOL", type := .byte, accessFlags := 25, slot := 32, constantValue := 0 }, { name := "INITIAL_QUOTE_PUNCTUATION", type := .byte, accessFlags := 25, slot := 33, constantValue := 0 }, { name := "FINAL_QUOTE_PUNCTUATION", type := .byte, accessFlags := 25, slot := 34, constantValue := 0 }, { name := "ERROR", type := .int, accessFlags := 24, slot := 35, constantValue := 0 }, { name := "DIRECTIONALITY_UNDEFINED", type := .byte, accessFlags := 25, slot := 36, constantValue := 0 }, { name := "DIRECTIONALITY_LEFT_TO_RIGHT", type := .byte, accessFlags := 25, slot := 37, constantValue := 0 }, { name := "DIRECTIONALITY_RIGHT_TO_LEFT", type := .byte, accessFlags := 25, slot := 38, constantValue := 0 }, { name := "DIRECTIONALITY_RIGHT_TO_LEFT_ARABIC", type := .byte, accessFlags := 25, slot := 39, constantValue := 0 }, { name := "DIRECTIONALITY_EUROPEAN_NUMBER", type := .byte, accessFlags := 25, slot := 40, constantValue := 0 }, { name := "DIRECTIONALITY_EUROPEAN_NUMBER_SEPARATOR", type := .byte, accessFlags := 25, slot := 41, constantValue := 0 }, { name := "DIRECTIONALITY_EUROPEAN_NUMBER_TERMINATOR", type := .byte, accessFlags := 25, slot := 42, constantValue := 0 }, { name := "DIRECTIONALITY_ARABIC_NUMBER", type := .byte, accessFlags := 25, slot := 43, constantValue := 0 }, { name := "DIRECTIONALITY_COMMON_NUMBER_SEPARATOR", type := .byte, accessFlags := 25, slot := 44, constantValue := 0 }, { name := "DIRECTIONALITY_NONSPACING_MARK", type := .byte, accessFlags := 25, slot := 45, constantValue := 0 }, { name := "DIRECTIONALITY_BOUNDARY_NEUTRAL", type := .byte, accessFlags := 25, slot := 46, constantValue := 0 }, { name := "DIRECTIONALITY_PARAGRAPH_SEPARATOR", type := .byte, accessFlags := 25, slot := 47, constantValue := 0 }, { name := "DIRECTIONALITY_SEGMENT_SEPARATOR", type := .byte, accessFlags := 25, slot := 48, constantValue := 0 }, { name := "DIRECTIONALITY_WHITESPACE", type := .byte, accessFlags := 25, slot := 49, constantValue := 0 }, { name := "DIRECTIONALITY_OTHER_NEUTRALS", type := .byte, accessFlags := 25, slot := 50, constantValue := 0 }, { name := "DIRECTIONALITY_LEFT_TO_RIGHT_EMBEDDING", type := .byte, accessFlags := 25, slot := 51, constantValue := 0 }, { name := "DIRECTIONALITY_LEFT_TO_RIGHT_OVERRIDE", type := .byte, accessFlags := 25, slot := 52, constantValue := 0 }, { name := "DIRECTIONALITY_RIGHT_TO_LEFT_EMBEDDING", type := .byte, accessFlags := 25, slot := 53, constantValue := 0 }, { name := "DIRECTIONALITY_RIGHT_TO_LEFT_OVERRIDE", type := .byte, accessFlags := 25, slot := 54, constantValue := 0 }, { name := "DIRECTIONALITY_POP_DIRECTIONAL_FORMAT", type := .byte, accessFlags := 25, slot := 55, constantValue := 0 }, { name := "DIRECTIONALITY_LEFT_TO_RIGHT_ISOLATE", type := .byte, accessFlags := 25, slot := 56, constantValue := 0 }, { name := "DIRECTIONALITY_RIGHT_TO_LEFT_ISOLATE", type := .byte, accessFlags := 25, slot := 57, constantValue := 0 }, { name := "DIRECTIONALITY_FIRST_STRONG_ISOLATE", type := .byte, accessFlags := 25, slot := 58, constantValue := 0 }, { name := "DIRECTIONALITY_POP_DIRECTIONAL_ISOLATE", type := .byte, accessFlags := 25, slot := 59, constantValue := 0 }, { name := "MIN_HIGH_SURROGATE", type := .char, accessFlags := 25, slot := 60, constantValue := 0 }, { name := "MAX_HIGH_SURROGATE", type := .char, accessFlags := 25, slot := 61, constantValue := 0 }, { name := "MIN_LOW_SURROGATE", type := .char, accessFlags := 25, slot := 62, constantValue := 0 }, { name := "MAX_LOW_SURROGATE", type := .char, accessFlags := 25, slot := 63, constantValue := 0 }, { name := "MIN_SURROGATE", type := .char, accessFlags := 25, slot := 64, constantValue := 0 }, { name := "MAX_SURROGATE", type := .char, accessFlags := 25, slot := 65, constantValue := 0 }, { name := "MIN_SUPPLEMENTARY_CODE_POINT", type := .int, accessFlags := 25, slot := 66, constantValue := 0 }, { name := "MIN_CODE_POINT", type := .int, accessFlags := 25, slot := 67, constantValue := 0 }, { name := "MAX_CODE_POINT", type := .int, accessFlags := 25, slot := 68, constantValue := 0 }, { name := "value", type := .char, accessFlags := 18, slot := 0, constantValue := 0 }, { name := "serialVersionUID", type := .long, accessFlags := 26, slot := 69, constantValue := 0 }, { name := "SIZE", type := .int, accessFlags := 25, slot := 70, constantValue := 0 }, { name := "BYTES", type := .int, accessFlags := 25, slot := 71, constantValue := 0 }, { name := "$assertionsDisabled", type := .boolean, accessFlags := 4120, slot := 72, constantValue := 0 }]
  methods := #[k12m0, k12m1]
  instanceTypes := #[.char]
  staticTypes := #[.int, .int, .char, .char, (.object "java/lang/Class"), .byte, .byte, .byte, .byte, .byte, .byte, .byte, .byte, .byte, .byte, .byte, .byte, .byte, .byte, .byte, .byte, .byte, .byte, .byte, .byte, .byte, .byte, .byte, .byte, .byte, .byte, .byte, .byte, .byte, .byte, .int, .byte, .byte, .byte, .byte, .byte, .byte, .byte, .byte, .byte, .byte, .byte, .byte, .byte, .byte, .byte, .byte, .byte, .byte, .byte, .byte, .byte, .byte, .byte, .byte, .char, .char, .char, .char, .char, .char, .int, .int, .int, .long, .int, .int, .boolean]
  resolved := Array.replicate 604 none
  statics := none }

def pool13 : Array CpInfo := pool [(9, u "<init>"), (6, .class_ 18), (1, u "java/lang/Object"), (0, u "()V"), (1, .class_ 23), (1, u "jdk/internal/util/ArraysSupport"), (0, u "LOG2_ARRAY_LONG_INDEX_SCALE"), (0, u "I"), (2, u "U"), (0, u "Ljdk/internal/misc/Unsafe;"), (8, u "BIG_ENDIAN"), (0, u "Z"), (8, u "LOG2_BYTE_BIT_SIZE"), (4, u "LOG2_ARRAY_INT_INDEX_SCALE"), (54, u "JLA"), (0, u "Ljdk/internal/access/JavaLangAccess;"), (11, u "LOG2_ARRAY_BOOLEAN_INDEX_SCALE"), (9, u "LOG2_ARRAY_BYTE_INDEX_SCALE"), (5, u "LOG2_ARRAY_CHAR_INDEX_SCALE"), (5, u "LOG2_ARRAY_SHORT_INDEX_SCALE"), (18, u "LOG2_ARRAY_FLOAT_INDEX_SCALE"), (24, u "LOG2_ARRAY_DOUBLE_INDEX_SCALE"), (89, u "T_BOOLEAN"), (2, u "T_CHAR"), (1, u "T_FLOAT"), (1, u "T_DOUBLE"), (1, u "T_BYTE"), (1, u "T_SHORT"), (1, u "T_INT"), (1, u "T_LONG"), (1, u "SOFT_MAX_ARRAY_LENGTH")] 83

def k13m0 : Method := { name := "<init>", desc := "()V", sig := { parameters := [], returnType := none }, accessFlags := 2, code := none }
/-- jdk/internal/util/ArraysSupport -/
def k13 : Class := { plain "jdk/internal/util/ArraysSupport" (some 0) with
  accessFlags := 33
  interfaces := #[]
  cf := some (fileOf pool13 21 #[] #[{ accessFlags := 2, nameIndex := 9, descriptorIndex := 19, attributes := #[] }] 33 16 #[] #[{ accessFlags := 24, nameIndex := 28, descriptorIndex := 29, attributes := #[] }, { accessFlags := 26, nameIndex := 38, descriptorIndex := 39, attributes := #[] }, { accessFlags := 25, nameIndex := 121, descriptorIndex := 25, attributes := #[] }, { accessFlags := 25, nameIndex := 131, descriptorIndex := 25, attributes := #[] }, { accessFlags := 25, nameIndex := 137, descriptorIndex := 25, attributes := #[] }, { accessFlags := 25, nameIndex := 143, descriptorIndex := 25, attributes := #[] }, { accessFlags := 25, nameIndex := 53, descriptorIndex := 25, attributes := #[] }, { accessFlags := 25, nameIndex := 24, descriptorIndex := 25, attributes := #[] }, { accessFlags := 25, nameIndex := 162, descriptorIndex := 25, attributes := #[] }, { accessFlags := 25, nameIndex := 187, descriptorIndex := 25, attributes := #[] }, { accessFlags := 26, nameIndex := 48, descriptorIndex := 25, attributes := #[] }, { accessFlags := 25, nameIndex := 277, descriptorIndex := 25, attributes := #[] }, { accessFlags := 25, nameIndex := 280, descriptorIndex := 25, attributes := #[] }, { accessFlags := 25, nameIndex := 282, descriptorIndex := 25, attributes := #[] }, { accessFlags := 25, nameIndex := 284, descriptorIndex := 25, attributes := #[] }, { accessFlags := 25, nameIndex := 286, descriptorIndex := 25, attributes := #[] }, { accessFlags := 25, nameIndex := 288, descriptorIndex := 25, attributes := #[] }, { accessFlags := 25, nameIndex := 290, descriptorIndex := 25, attributes := #[] }, { accessFlags := 25, nameIndex := 292, descriptorIndex := 25, attributes := #[] }, { accessFlags := 26, nameIndex := 108, descriptorIndex := 109, attributes := #[] }, { accessFlags := 25, nameIndex := 294, descriptorIndex := 25, attributes := #[] }])
  fields := #[{ name := "U", type := (.object "jdk/internal/misc/Unsafe"), accessFlags := 24, slot := 0, constantValue := 0 }, { name := "BIG_ENDIAN", type := .boolean, accessFlags := 26, slot := 1, constantValue := 0 }, { name := "LOG2_ARRAY_BOOLEAN_INDEX_SCALE", type := .int, accessFlags := 25, slot := 2, constantValue := 0 }, { name := "LOG2_ARRAY_BYTE_INDEX_SCALE", type := .int, accessFlags := 25, slot := 3, constantValue := 0 }, { name := "LOG2_ARRAY_CHAR_INDEX_SCALE", type := .int, accessFlags := 25, slot := 4, constantValue := 0 }, { name := "LOG2_ARRAY_SHORT_INDEX_SCALE", type := .int, accessFlags := 25, slot := 5, constantValue := 0 }, { name := "LOG2_ARRAY_INT_INDEX_SCALE", type := .int, accessFlags := 25, slot := 6, constantValue := 0 }, { name := "LOG2_ARRAY_LONG_INDEX_SCALE", type := .int, accessFlags := 25, slot := 7, constantValue := 0 }, { name := "LOG2_ARRAY_FLOAT_INDEX_SCALE", type := .int, accessFlags := 25, slot := 8, constantValue := 0 }, { name := "LOG2_ARRAY_DOUBLE_INDEX_SCALE", type := .int, accessFlags := 25, slot := 9, constantValue := 0 }, { name := "LOG2_BYTE_BIT_SIZE", type := .int, accessFlags := 26, slot := 10, constantValue := 0 }, { name := "T_BOOLEAN", type := .int, accessFlags := 25, slot := 11, constantValue := 0 }, { name := "T_CHAR", type := .int, accessFlags := 25, slot := 12, constantValue := 0 }, { name := "T_FLOAT", type := .int, accessFlags := 25, slot := 13, constantValue := 0 }, { name := "T_DOUBLE", type := .int, accessFlags := 25, slot := 14, constantValue := 0 }, { name := "T_BYTE", type := .int, accessFlags := 25, slot := 15, constantValue := 0 }, { name := "T_SHORT", type := .int, accessFlags := 25, slot := 16, constantValue := 0 }, { name := "T_INT", type := .int, accessFlags := 25, slot := 17, constantValue := 0 }, { name := "T_LONG", type := .int, accessFlags := 25, slot := 18, constantValue := 0 }, { name := "JLA", type := (.object "jdk/internal/access/JavaLangAccess"), accessFlags := 26, slot := 19, constantValue := 0 }, { name := "SOFT_MAX_ARRAY_LENGTH", type := .int, accessFlags := 25, slot := 20, constantValue := 0 }]
  methods := #[k13m0]
  instanceTypes := #[]
  staticTypes := #[(.object "jdk/internal/misc/Unsafe"), .boolean, .int, .int, .int, .int, .int, .int, .int, .int, .int, .int, .int, .int, .int, .int, .int, .int, .int, (.object "jdk/internal/access/JavaLangAccess"), .int]
  resolved := Array.replicate 378 none
  statics := none }

def pool14 : Array CpInfo := pool [(1, u "java/lang/Cloneable"), (0, .class_ 1), (0, u "java/lang/Object"), (0, .class_ 3)] 3

/-- java/lang/Cloneable -/
def k14 : Class := { plain "java/lang/Cloneable" (some 0) with
  accessFlags := 1537
  interfaces := #[]
  cf := some (fileOf pool14 2 #[] #[] 1537 4 #[] #[])
  fields := #[]
  methods := #[]
  instanceTypes := #[]
  staticTypes := #[]
  resolved := Array.replicate 8 none
  statics := none }

/-- the primitive byte -/
def k15 : Class := { plain "byte" none with kind := .primitive 'B', accessFlags := 0x411 }
/-- [B -/
def k16 : Class := { plain "[B" (some 0) with kind := .array 15 .byte, interfaces := #[14, 2], accessFlags := 1041 }

/-- the primitive char -/
def k17 : Class := { plain "char" none with kind := .primitive 'C', accessFlags := 0x411 }
/-- [C -/
def k18 : Class := { plain "[C" (some 0) with kind := .array 17 .char, interfaces := #[14, 2], accessFlags := 1041 }

/-- the primitive int -/
def k19 : Class := { plain "int" none with kind := .primitive 'I', accessFlags := 0x411 }
/-- [I -/
def k20 : Class := { plain "[I" (some 0) with kind := .array 19 .int, interfaces := #[14, 2], accessFlags := 1041 }

def heap : Heap := #[{ cls := 7, slots := #[.long 0, .int 1, .null, .int 0, .null, .int 0, .int 0], vm := .statics 7 },
  { cls := 8, slots := #[.int 0, .int 8, .int 0, .int 1], vm := .statics 8 },
  { cls := 11, slots := #[.null, .null, .null], vm := .statics 11 }]
def classes : Array Class := #[k0, k1, k2, k3, k4, k5, k6, k7, k8, k9, k10, k11, k12, k13, k14, k15, k16, k17, k18, k19, k20]
def interned : List (Array UInt16 × Addr) := []
def slotsUsed : Nat := 14
def theMethod : MethodId := ⟨1, 2⟩
def args0 : Array Value := #[.int 5, .int 5, .int 5, .int 5, .int 5]
def aboutOver (below : List Frame) : State where
  vm := { classes := classes, interned := interned.toArray }
  heap := heap
  slotsUsed := slotsUsed
  threads := #[{ frames := .invoking theMethod args0 :: below }]
def below0 : List Frame := [.native { method := ⟨0, 0⟩, args := #[] }]
def about1 : State := aboutOver below0
def p0 : Program := .bare "" "" ""
def e0 : Env := launch0.env 0 0 0
theorem w_frames : about1.frames = Frame.invoking theMethod args0 :: below0 := rfl
set_option maxRecDepth 65536 in
theorem w_args : argsFit about1.vm theMethod args0 = true := by decide +kernel
set_option maxRecDepth 65536 in
theorem w_heap : heapFits about1 = true := by decide +kernel
set_option maxRecDepth 65536 in
theorem w_runnable : about1.curStatus? = some .runnable := by decide +kernel
set_option maxRecDepth 65536 in
theorem w_alone : about1.alone = true := by decide +kernel
set_option maxRecDepth 65536 in
theorem w_named : about1.methodNamed? x = some theMethod := by decide +kernel
set_option maxRecDepth 65536 in
theorem w_hears : about1.hears theMethod below0 = true := by decide +kernel
set_option maxRecDepth 65536 in
theorem w_ripe : about1.ripe theMethod args0 below0 = true := by decide +kernel
theorem w_running : about1.status = .running := rfl
set_option maxRecDepth 65536 in
theorem w_room : about1.hasRoom e0.platform room_1 = true :=
  launch0.hasRoom_least _ room_1 (by decide +kernel) (by decide +kernel) (by decide +kernel) (by decide +kernel) (by decide +kernel) (by decide +kernel)
theorem allAtoms_all (ts : List Jvm.Cond) (a : Array Jvm.Value) (st : Jvm.State) : (allAtoms ts).before a st = ts.all (fun c => c.before a st) := by
  induction ts with
  | nil => rfl
  | cons c t ih =>
    show (Jvm.Cond.and c (allAtoms t)).before a st = _
    rw [Jvm.Cond.before_and, ih, List.all_cons]
def words1 : List Jvm.Cond := Jvm.Cond.code x code maxLocals ret :: tables_1
/-- a 'code' word, met by the world's own term for the bytes: nothing is compared byte by byte -/
theorem code_word {y : MethodName} {bytes : ByteArray} {mx : Nat} {rt : Option FieldType} {a : Array Value} {s : State} {m : MethodId} {meth : Method} {c : Code} (h1 : s.methodNamed? y = some m) (h2 : s.vm.method? m = some meth) (h3 : meth.code = some c) (h4 : c.code = bytes)
    (h5 : (c.maxLocals == mx && c.exceptionTable.isEmpty && decide (c.maxStack ≤ mostOperands) && decide (meth.sig.returnType = rt) && !meth.locks && decide (parseMethodDescriptor y.desc = some meth.sig)) = true) : (Jvm.Cond.code y bytes mx rt).before a s = true := by
  simp only [Bool.and_eq_true, beq_iff_eq, Bool.not_eq_true', decide_eq_true_eq] at h5
  obtain ⟨⟨⟨⟨⟨g1, g2⟩, g3⟩, g4⟩, g5⟩, g6⟩ := h5
  simp [Cond.before, Cond.holds, Cond.value, h1, h2, h3, h4, g1, g2, g3, g4, g5, g6]
def isCode : Jvm.Cond → Bool
  | .code _ _ _ _ => true
  | _ => false
theorem all_split {L : List Jvm.Cond} {P : Jvm.Cond → Bool} (h1 : L.all (fun c => isCode c || P c) = true) (h2 : ∀ c ∈ L.filter isCode, P c = true) : L.all P = true := by
  refine List.all_eq_true.mpr fun c hc => ?_
  have h := List.all_eq_true.mp h1 c hc
  rcases Bool.eq_false_or_eq_true (isCode c) with hi | hi
  · exact h2 c (List.mem_filter.mpr ⟨hc, hi⟩)
  · simpa [hi] using h
set_option maxRecDepth 65536 in
theorem w_c0 : (Jvm.Cond.code x code maxLocals ret).before args0 about1 = true := code_word (m := ⟨1, 2⟩) (meth := k1m2) (c := k1c2) (by decide +kernel) rfl rfl rfl (by decide +kernel)
set_option maxRecDepth 65536 in
theorem w_c1 : (Jvm.Cond.code ({ cls := "com/example/turnwise/turnwise/input/IdsCheckPinLaw", name := "control", desc := "(C)Z" } : Jvm.MethodName) method_2_code (1 : Nat) (Option.some Jvm.ClassFile.FieldType.boolean)).before args0 about1 = true := code_word (m := ⟨1, 1⟩) (meth := k1m1) (c := k1c1) (by decide +kernel) rfl rfl rfl (by decide +kernel)
set_option maxRecDepth 65536 in
theorem w_c2 : (Jvm.Cond.code ({ cls := "java/lang/String", name := "<init>", desc := "([C)V" } : Jvm.MethodName) jdk_42_method_3_code (2 : Nat) (Option.none : Option Jvm.ClassFile.FieldType)).before args0 about1 = true := code_word (m := ⟨7, 1⟩) (meth := k7m1) (c := k7c1) (by decide +kernel) rfl rfl rfl (by decide +kernel)
set_option maxRecDepth 65536 in
theorem w_c3 : (Jvm.Cond.code ({ cls := "java/lang/String", name := "<init>", desc := "([CIILjava/lang/Void;)V" } : Jvm.MethodName) jdk_42_method_149_code (6 : Nat) (Option.none : Option Jvm.ClassFile.FieldType)).before args0 about1 = true := code_word (m := ⟨7, 6⟩) (meth := k7m6) (c := k7c6) (by decide +kernel) rfl rfl rfl (by decide +kernel)
set_option maxRecDepth 65536 in
theorem w_c4 : (Jvm.Cond.code ({ cls := "java/lang/Object", name := "<init>", desc := "()V" } : Jvm.MethodName) object_method_1_code (1 : Nat) (Option.none : Option Jvm.ClassFile.FieldType)).before args0 about1 = true := code_word (m := ⟨0, 0⟩) (meth := k0m0) (c := k0c0) (by decide +kernel) rfl rfl rfl (by decide +kernel)
set_option maxRecDepth 65536 in
theorem w_c5 : (Jvm.Cond.code ({ cls := "java/lang/StringUTF16", name := "compress", desc := "([CII)[B" } : Jvm.MethodName) jdk_52_method_16_code (6 : Nat) (Option.some (Jvm.ClassFile.FieldType.array Jvm.ClassFile.FieldType.byte))).before args0 about1 = true := code_word (m := ⟨8, 8⟩) (meth := k8m8) (c := k8c8) (by decide +kernel) rfl rfl rfl (by decide +kernel)
set_option maxRecDepth 65536 in
theorem w_c6 : (Jvm.Cond.code ({ cls := "java/lang/StringUTF16", name := "compress", desc := "([CI[BII)I" } : Jvm.MethodName) jdk_52_method_21_code (7 : Nat) (Option.some Jvm.ClassFile.FieldType.int)).before args0 about1 = true := code_word (m := ⟨8, 9⟩) (meth := k8m9) (c := k8c9) (by decide +kernel) rfl rfl rfl (by decide +kernel)
set_option maxRecDepth 65536 in
theorem w_c7 : (Jvm.Cond.code ({ cls := "java/lang/StringUTF16", name := "toBytes", desc := "([CII)[B" } : Jvm.MethodName) jdk_52_method_14_code (5 : Nat) (Option.some (Jvm.ClassFile.FieldType.array Jvm.ClassFile.FieldType.byte))).before args0 about1 = true := code_word (m := ⟨8, 6⟩) (meth := k8m6) (c := k8c6) (by decide +kernel) rfl rfl rfl (by decide +kernel)
set_option maxRecDepth 65536 in
theorem w_c8 : (Jvm.Cond.code ({ cls := "java/lang/StringUTF16", name := "newBytesFor", desc := "(I)[B" } : Jvm.MethodName) jdk_52_method_2_code (1 : Nat) (Option.some (Jvm.ClassFile.FieldType.array Jvm.ClassFile.FieldType.byte))).before args0 about1 = true := code_word (m := ⟨8, 1⟩) (meth := k8m1) (c := k8c1) (by decide +kernel) rfl rfl rfl (by decide +kernel)
set_option maxRecDepth 65536 in
theorem w_c9 : (Jvm.Cond.code ({ cls := "java/lang/StringUTF16", name := "newBytesLength", desc := "(I)I" } : Jvm.MethodName) jdk_52_method_3_code (1 : Nat) (Option.some Jvm.ClassFile.FieldType.int)).before args0 about1 = true := code_word (m := ⟨8, 2⟩) (meth := k8m2) (c := k8c2) (by decide +kernel) rfl rfl rfl (by decide +kernel)
set_option maxRecDepth 65536 in
theorem w_c10 : (Jvm.Cond.code ({ cls := "java/lang/StringUTF16", name := "putChar", desc := "([BII)V" } : Jvm.MethodName) jdk_52_method_4_code (3 : Nat) (Option.none : Option Jvm.ClassFile.FieldType)).before args0 about1 = true := code_word (m := ⟨8, 3⟩) (meth := k8m3) (c := k8c3) (by decide +kernel) rfl rfl rfl (by decide +kernel)
set_option maxRecDepth 65536 in
theorem w_c11 : (Jvm.Cond.code ({ cls := "java/lang/StringUTF16", name := "getChar", desc := "([BI)C" } : Jvm.MethodName) jdk_52_method_5_code (2 : Nat) (Option.some Jvm.ClassFile.FieldType.char)).before args0 about1 = true := code_word (m := ⟨8, 4⟩) (meth := k8m4) (c := k8c4) (by decide +kernel) rfl rfl rfl (by decide +kernel)
set_option maxRecDepth 65536 in
theorem w_c12 : (Jvm.Cond.code ({ cls := "java/lang/StringUTF16", name := "coderFromArrayLen", desc := "([BI)B" } : Jvm.MethodName) jdk_52_method_15_code (2 : Nat) (Option.some Jvm.ClassFile.FieldType.byte)).before args0 about1 = true := code_word (m := ⟨8, 7⟩) (meth := k8m7) (c := k8c7) (by decide +kernel) rfl rfl rfl (by decide +kernel)
set_option maxRecDepth 65536 in
theorem w_c13 : (Jvm.Cond.code ({ cls := "java/lang/String", name := "valueOf", desc := "(C)Ljava/lang/String;" } : Jvm.MethodName) jdk_42_method_139_code (1 : Nat) (Option.some (Jvm.ClassFile.FieldType.object "java/lang/String"))).before args0 about1 = true := code_word (m := ⟨7, 5⟩) (meth := k7m5) (c := k7c5) (by decide +kernel) rfl rfl rfl (by decide +kernel)
set_option maxRecDepth 65536 in
theorem w_c14 : (Jvm.Cond.code ({ cls := "java/lang/StringLatin1", name := "canEncode", desc := "(C)Z" } : Jvm.MethodName) jdk_43_method_3_code (1 : Nat) (Option.some Jvm.ClassFile.FieldType.boolean)).before args0 about1 = true := code_word (m := ⟨9, 2⟩) (meth := k9m2) (c := k9c2) (by decide +kernel) rfl rfl rfl (by decide +kernel)
set_option maxRecDepth 65536 in
theorem w_c15 : (Jvm.Cond.code ({ cls := "java/lang/StringLatin1", name := "toBytes", desc := "(C)[B" } : Jvm.MethodName) jdk_43_method_46_code (1 : Nat) (Option.some (Jvm.ClassFile.FieldType.array Jvm.ClassFile.FieldType.byte))).before args0 about1 = true := code_word (m := ⟨9, 3⟩) (meth := k9m3) (c := k9c3) (by decide +kernel) rfl rfl rfl (by decide +kernel)
set_option maxRecDepth 65536 in
theorem w_c16 : (Jvm.Cond.code ({ cls := "java/lang/String", name := "<init>", desc := "([BB)V" } : Jvm.MethodName) jdk_42_method_151_code (3 : Nat) (Option.none : Option Jvm.ClassFile.FieldType)).before args0 about1 = true := code_word (m := ⟨7, 7⟩) (meth := k7m7) (c := k7c7) (by decide +kernel) rfl rfl rfl (by decide +kernel)
set_option maxRecDepth 65536 in
theorem w_c17 : (Jvm.Cond.code ({ cls := "com/example/turnwise/turnwise/input/Ids", name := "check", desc := "(Ljava/lang/String;Ljava/lang/String;)Ljava/lang/String;" } : Jvm.MethodName) prog_28_method_2_code (2 : Nat) (Option.some (Jvm.ClassFile.FieldType.object "java/lang/String"))).before args0 about1 = true := code_word (m := ⟨10, 1⟩) (meth := k10m1) (c := k10c1) (by decide +kernel) rfl rfl rfl (by decide +kernel)
set_option maxRecDepth 65536 in
theorem w_c18 : (Jvm.Cond.code ({ cls := "com/example/turnwise/turnwise/input/Ids", name := "isId", desc := "(Ljava/lang/String;)Z" } : Jvm.MethodName) prog_28_method_3_code (3 : Nat) (Option.some Jvm.ClassFile.FieldType.boolean)).before args0 about1 = true := code_word (m := ⟨10, 2⟩) (meth := k10m2) (c := k10c2) (by decide +kernel) rfl rfl rfl (by decide +kernel)
set_option maxRecDepth 65536 in
theorem w_c19 : (Jvm.Cond.code ({ cls := "java/lang/String", name := "isEmpty", desc := "()Z" } : Jvm.MethodName) jdk_42_method_55_code (1 : Nat) (Option.some Jvm.ClassFile.FieldType.boolean)).before args0 about1 = true := code_word (m := ⟨7, 3⟩) (meth := k7m3) (c := k7c3) (by decide +kernel) rfl rfl rfl (by decide +kernel)
set_option maxRecDepth 65536 in
theorem w_c20 : (Jvm.Cond.code ({ cls := "java/lang/String", name := "length", desc := "()I" } : Jvm.MethodName) jdk_42_method_54_code (1 : Nat) (Option.some Jvm.ClassFile.FieldType.int)).before args0 about1 = true := code_word (m := ⟨7, 2⟩) (meth := k7m2) (c := k7c2) (by decide +kernel) rfl rfl rfl (by decide +kernel)
set_option maxRecDepth 65536 in
theorem w_c21 : (Jvm.Cond.code ({ cls := "java/lang/String", name := "coder", desc := "()B" } : Jvm.MethodName) jdk_42_method_152_code (1 : Nat) (Option.some Jvm.ClassFile.FieldType.byte)).before args0 about1 = true := code_word (m := ⟨7, 8⟩) (meth := k7m8) (c := k7c8) (by decide +kernel) rfl rfl rfl (by decide +kernel)
set_option maxRecDepth 65536 in
theorem w_c22 : (Jvm.Cond.code ({ cls := "java/lang/String", name := "charAt", desc := "(I)C" } : Jvm.MethodName) jdk_42_method_56_code (2 : Nat) (Option.some Jvm.ClassFile.FieldType.char)).before args0 about1 = true := code_word (m := ⟨7, 4⟩) (meth := k7m4) (c := k7c4) (by decide +kernel) rfl rfl rfl (by decide +kernel)
set_option maxRecDepth 65536 in
theorem w_c23 : (Jvm.Cond.code ({ cls := "java/lang/String", name := "isLatin1", desc := "()Z" } : Jvm.MethodName) jdk_42_method_154_code (1 : Nat) (Option.some Jvm.ClassFile.FieldType.boolean)).before args0 about1 = true := code_word (m := ⟨7, 9⟩) (meth := k7m9) (c := k7c9) (by decide +kernel) rfl rfl rfl (by decide +kernel)
set_option maxRecDepth 65536 in
theorem w_c24 : (Jvm.Cond.code ({ cls := "java/lang/StringUTF16", name := "charAt", desc := "([BI)C" } : Jvm.MethodName) jdk_52_method_83_code (2 : Nat) (Option.some Jvm.ClassFile.FieldType.char)).before args0 about1 = true := code_word (m := ⟨8, 10⟩) (meth := k8m10) (c := k8c10) (by decide +kernel) rfl rfl rfl (by decide +kernel)
set_option maxRecDepth 65536 in
theorem w_c25 : (Jvm.Cond.code ({ cls := "java/lang/StringUTF16", name := "checkIndex", desc := "(I[B)V" } : Jvm.MethodName) jdk_52_method_91_code (2 : Nat) (Option.none : Option Jvm.ClassFile.FieldType)).before args0 about1 = true := code_word (m := ⟨8, 11⟩) (meth := k8m11) (c := k8c11) (by decide +kernel) rfl rfl rfl (by decide +kernel)
set_option maxRecDepth 65536 in
theorem w_c26 : (Jvm.Cond.code ({ cls := "java/lang/StringUTF16", name := "length", desc := "([B)I" } : Jvm.MethodName) jdk_52_method_6_code (1 : Nat) (Option.some Jvm.ClassFile.FieldType.int)).before args0 about1 = true := code_word (m := ⟨8, 5⟩) (meth := k8m5) (c := k8c5) (by decide +kernel) rfl rfl rfl (by decide +kernel)
set_option maxRecDepth 65536 in
theorem w_c27 : (Jvm.Cond.code ({ cls := "java/lang/String", name := "checkIndex", desc := "(II)V" } : Jvm.MethodName) jdk_42_method_155_code (2 : Nat) (Option.none : Option Jvm.ClassFile.FieldType)).before args0 about1 = true := code_word (m := ⟨7, 10⟩) (meth := k7m10) (c := k7c10) (by decide +kernel) rfl rfl rfl (by decide +kernel)
set_option maxRecDepth 65536 in
theorem w_c28 : (Jvm.Cond.code ({ cls := "jdk/internal/util/Preconditions", name := "checkIndex", desc := "(IILjava/util/function/BiFunction;)I" } : Jvm.MethodName) jdk_41_method_11_code (3 : Nat) (Option.some Jvm.ClassFile.FieldType.int)).before args0 about1 = true := code_word (m := ⟨11, 1⟩) (meth := k11m1) (c := k11c1) (by decide +kernel) rfl rfl rfl (by decide +kernel)
set_option maxRecDepth 65536 in
theorem w_c29 : (Jvm.Cond.code ({ cls := "java/lang/Character", name := "isISOControl", desc := "(C)Z" } : Jvm.MethodName) jdk_89_method_88_code (1 : Nat) (Option.some Jvm.ClassFile.FieldType.boolean)).before args0 about1 = true := code_word (m := ⟨12, 0⟩) (meth := k12m0) (c := k12c0) (by decide +kernel) rfl rfl rfl (by decide +kernel)
set_option maxRecDepth 65536 in
theorem w_c30 : (Jvm.Cond.code ({ cls := "java/lang/Character", name := "isISOControl", desc := "(I)Z" } : Jvm.MethodName) jdk_89_method_89_code (1 : Nat) (Option.some Jvm.ClassFile.FieldType.boolean)).before args0 about1 = true := code_word (m := ⟨12, 1⟩) (meth := k12m1) (c := k12c1) (by decide +kernel) rfl rfl rfl (by decide +kernel)
set_option maxRecDepth 65536 in
theorem w_c31 : (Jvm.Cond.code ({ cls := "java/lang/StringLatin1", name := "charAt", desc := "([BI)C" } : Jvm.MethodName) jdk_43_method_2_code (2 : Nat) (Option.some Jvm.ClassFile.FieldType.char)).before args0 about1 = true := code_word (m := ⟨9, 1⟩) (meth := k9m1) (c := k9c1) (by decide +kernel) rfl rfl rfl (by decide +kernel)
def codes1 : List Jvm.Cond := [Jvm.Cond.code x code maxLocals ret, Jvm.Cond.code ({ cls := "com/example/turnwise/turnwise/input/IdsCheckPinLaw", name := "control", desc := "(C)Z" } : Jvm.MethodName) method_2_code (1 : Nat) (Option.some Jvm.ClassFile.FieldType.boolean), Jvm.Cond.code ({ cls := "java/lang/String", name := "<init>", desc := "([C)V" } : Jvm.MethodName) jdk_42_method_3_code (2 : Nat) (Option.none : Option Jvm.ClassFile.FieldType), Jvm.Cond.code ({ cls := "java/lang/String", name := "<init>", desc := "([CIILjava/lang/Void;)V" } : Jvm.MethodName) jdk_42_method_149_code (6 : Nat) (Option.none : Option Jvm.ClassFile.FieldType), Jvm.Cond.code ({ cls := "java/lang/Object", name := "<init>", desc := "()V" } : Jvm.MethodName) object_method_1_code (1 : Nat) (Option.none : Option Jvm.ClassFile.FieldType), Jvm.Cond.code ({ cls := "java/lang/StringUTF16", name := "compress", desc := "([CII)[B" } : Jvm.MethodName) jdk_52_method_16_code (6 : Nat) (Option.some (Jvm.ClassFile.FieldType.array Jvm.ClassFile.FieldType.byte)), Jvm.Cond.code ({ cls := "java/lang/StringUTF16", name := "compress", desc := "([CI[BII)I" } : Jvm.MethodName) jdk_52_method_21_code (7 : Nat) (Option.some Jvm.ClassFile.FieldType.int), Jvm.Cond.code ({ cls := "java/lang/StringUTF16", name := "toBytes", desc := "([CII)[B" } : Jvm.MethodName) jdk_52_method_14_code (5 : Nat) (Option.some (Jvm.ClassFile.FieldType.array Jvm.ClassFile.FieldType.byte)), Jvm.Cond.code ({ cls := "java/lang/StringUTF16", name := "newBytesFor", desc := "(I)[B" } : Jvm.MethodName) jdk_52_method_2_code (1 : Nat) (Option.some (Jvm.ClassFile.FieldType.array Jvm.ClassFile.FieldType.byte)), Jvm.Cond.code ({ cls := "java/lang/StringUTF16", name := "newBytesLength", desc := "(I)I" } : Jvm.MethodName) jdk_52_method_3_code (1 : Nat) (Option.some Jvm.ClassFile.FieldType.int), Jvm.Cond.code ({ cls := "java/lang/StringUTF16", name := "putChar", desc := "([BII)V" } : Jvm.MethodName) jdk_52_method_4_code (3 : Nat) (Option.none : Option Jvm.ClassFile.FieldType), Jvm.Cond.code ({ cls := "java/lang/StringUTF16", name := "getChar", desc := "([BI)C" } : Jvm.MethodName) jdk_52_method_5_code (2 : Nat) (Option.some Jvm.ClassFile.FieldType.char), Jvm.Cond.code ({ cls := "java/lang/StringUTF16", name := "coderFromArrayLen", desc := "([BI)B" } : Jvm.MethodName) jdk_52_method_15_code (2 : Nat) (Option.some Jvm.ClassFile.FieldType.byte), Jvm.Cond.code ({ cls := "java/lang/String", name := "valueOf", desc := "(C)Ljava/lang/String;" } : Jvm.MethodName) jdk_42_method_139_code (1 : Nat) (Option.some (Jvm.ClassFile.FieldType.object "java/lang/String")), Jvm.Cond.code ({ cls := "java/lang/StringLatin1", name := "canEncode", desc := "(C)Z" } : Jvm.MethodName) jdk_43_method_3_code (1 : Nat) (Option.some Jvm.ClassFile.FieldType.boolean), Jvm.Cond.code ({ cls := "java/lang/StringLatin1", name := "toBytes", desc := "(C)[B" } : Jvm.MethodName) jdk_43_method_46_code (1 : Nat) (Option.some (Jvm.ClassFile.FieldType.array Jvm.ClassFile.FieldType.byte)), Jvm.Cond.code ({ cls := "java/lang/String", name := "<init>", desc := "([BB)V" } : Jvm.MethodName) jdk_42_method_151_code (3 : Nat) (Option.none : Option Jvm.ClassFile.FieldType), Jvm.Cond.code ({ cls := "com/example/turnwise/turnwise/input/Ids", name := "check", desc := "(Ljava/lang/String;Ljava/lang/String;)Ljava/lang/String;" } : Jvm.MethodName) prog_28_method_2_code (2 : Nat) (Option.some (Jvm.ClassFile.FieldType.object "java/lang/String")), Jvm.Cond.code ({ cls := "com/example/turnwise/turnwise/input/Ids", name := "isId", desc := "(Ljava/lang/String;)Z" } : Jvm.MethodName) prog_28_method_3_code (3 : Nat) (Option.some Jvm.ClassFile.FieldType.boolean), Jvm.Cond.code ({ cls := "java/lang/String", name := "isEmpty", desc := "()Z" } : Jvm.MethodName) jdk_42_method_55_code (1 : Nat) (Option.some Jvm.ClassFile.FieldType.boolean), Jvm.Cond.code ({ cls := "java/lang/String", name := "length", desc := "()I" } : Jvm.MethodName) jdk_42_method_54_code (1 : Nat) (Option.some Jvm.ClassFile.FieldType.int), Jvm.Cond.code ({ cls := "java/lang/String", name := "coder", desc := "()B" } : Jvm.MethodName) jdk_42_method_152_code (1 : Nat) (Option.some Jvm.ClassFile.FieldType.byte), Jvm.Cond.code ({ cls := "java/lang/String", name := "charAt", desc := "(I)C" } : Jvm.MethodName) jdk_42_method_56_code (2 : Nat) (Option.some Jvm.ClassFile.FieldType.char), Jvm.Cond.code ({ cls := "java/lang/String", name := "isLatin1", desc := "()Z" } : Jvm.MethodName) jdk_42_method_154_code (1 : Nat) (Option.some Jvm.ClassFile.FieldType.boolean), Jvm.Cond.code ({ cls := "java/lang/StringUTF16", name := "charAt", desc := "([BI)C" } : Jvm.MethodName) jdk_52_method_83_code (2 : Nat) (Option.some Jvm.ClassFile.FieldType.char), Jvm.Cond.code ({ cls := "java/lang/StringUTF16", name := "checkIndex", desc := "(I[B)V" } : Jvm.MethodName) jdk_52_method_91_code (2 : Nat) (Option.none : Option Jvm.ClassFile.FieldType), Jvm.Cond.code ({ cls := "java/lang/StringUTF16", name := "length", desc := "([B)I" } : Jvm.MethodName) jdk_52_method_6_code (1 : Nat) (Option.some Jvm.ClassFile.FieldType.int), Jvm.Cond.code ({ cls := "java/lang/String", name := "checkIndex", desc := "(II)V" } : Jvm.MethodName) jdk_42_method_155_code (2 : Nat) (Option.none : Option Jvm.ClassFile.FieldType), Jvm.Cond.code ({ cls := "jdk/internal/util/Preconditions", name := "checkIndex", desc := "(IILjava/util/function/BiFunction;)I" } : Jvm.MethodName) jdk_41_method_11_code (3 : Nat) (Option.some Jvm.ClassFile.FieldType.int), Jvm.Cond.code ({ cls := "java/lang/Character", name := "isISOControl", desc := "(C)Z" } : Jvm.MethodName) jdk_89_method_88_code (1 : Nat) (Option.some Jvm.ClassFile.FieldType.boolean), Jvm.Cond.code ({ cls := "java/lang/Character", name := "isISOControl", desc := "(I)Z" } : Jvm.MethodName) jdk_89_method_89_code (1 : Nat) (Option.some Jvm.ClassFile.FieldType.boolean), Jvm.Cond.code ({ cls := "java/lang/StringLatin1", name := "charAt", desc := "([BI)C" } : Jvm.MethodName) jdk_43_method_2_code (2 : Nat) (Option.some Jvm.ClassFile.FieldType.char)]
set_option maxRecDepth 65536 in
theorem codes_eq : words1.filter isCode = codes1 := rfl
theorem w_codes : ∀ c ∈ words1.filter isCode, c.before args0 about1 = true := by
  rw [codes_eq]
  intro c hc
  simp only [codes1, List.mem_cons, List.not_mem_nil, or_false] at hc
  rcases hc with rfl | rfl | rfl | rfl | rfl | rfl | rfl | rfl | rfl | rfl | rfl | rfl | rfl | rfl | rfl | rfl | rfl | rfl | rfl | rfl | rfl | rfl | rfl | rfl | rfl | rfl | rfl | rfl | rfl | rfl | rfl | rfl
  · exact w_c0
  · exact w_c1
  · exact w_c2
  · exact w_c3
  · exact w_c4
  · exact w_c5
  · exact w_c6
  · exact w_c7
  · exact w_c8
  · exact w_c9
  · exact w_c10
  · exact w_c11
  · exact w_c12
  · exact w_c13
  · exact w_c14
  · exact w_c15
  · exact w_c16
  · exact w_c17
  · exact w_c18
  · exact w_c19
  · exact w_c20
  · exact w_c21
  · exact w_c22
  · exact w_c23
  · exact w_c24
  · exact w_c25
  · exact w_c26
  · exact w_c27
  · exact w_c28
  · exact w_c29
  · exact w_c30
  · exact w_c31
set_option maxRecDepth 65536 in
theorem w_t1 : (words1.take 24).all (fun c => isCode c || c.before args0 about1) = true := by decide +kernel
set_option maxRecDepth 65536 in
theorem w_t2 : ((words1.drop 24).take 24).all (fun c => isCode c || c.before args0 about1) = true := by decide +kernel
set_option maxRecDepth 65536 in
theorem w_t3 : (((words1.drop 24).drop 24).take 24).all (fun c => isCode c || c.before args0 about1) = true := by decide +kernel
set_option maxRecDepth 65536 in
theorem w_t4 : ((((words1.drop 24).drop 24).drop 24).take 24).all (fun c => isCode c || c.before args0 about1) = true := by decide +kernel
set_option maxRecDepth 65536 in
theorem w_t5 : (((((words1.drop 24).drop 24).drop 24).drop 24).take 24).all (fun c => isCode c || c.before args0 about1) = true := by decide +kernel
set_option maxRecDepth 65536 in
theorem w_t6 : (((((words1.drop 24).drop 24).drop 24).drop 24).drop 24).all (fun c => isCode c || c.before args0 about1) = true := by decide +kernel
theorem w_tables : (allAtoms (Jvm.Cond.code x code maxLocals ret :: tables_1)).before args0 about1 = true := by
  rw [allAtoms_all]
  show words1.all (fun c => c.before args0 about1) = true
  refine all_split ?_ w_codes
  rw [← List.take_append_drop 24 words1, List.all_append, w_t1, ← List.take_append_drop 24 (words1.drop 24), List.all_append, w_t2, ← List.take_append_drop 24 ((words1.drop 24).drop 24), List.all_append, w_t3, ← List.take_append_drop 24 (((words1.drop 24).drop 24).drop 24), List.all_append, w_t4, ← List.take_append_drop 24 ((((words1.drop 24).drop 24).drop 24).drop 24), List.all_append, w_t5, w_t6]
  rfl
set_option maxRecDepth 65536 in
theorem w_rest : rest_1_c.before args0 about1 = true := by decide +kernel
set_option maxRecDepth 65536 in
theorem w_case : (Jvm.Cond.and given_1 narrow_1).before args0 about1 = true := by decide +kernel
theorem w_applies : (headSpec (Jvm.Cond.code x code maxLocals ret :: tables_1) room_1).applies x e0.platform about1 = true :=
  (Spec.applies_iff w_frames).mpr ⟨w_running, w_runnable, w_alone, w_named, w_hears, w_ripe, w_room, w_tables⟩
theorem atStart : AtStart classFile x code maxLocals ret World_1 tables_1 room_1 Calls_1 rest_1 Pre_1 launch0 p0 e0 about1 theMethod args0 below0 :=
  ⟨lists_1, trivial, launch0.admits_env _ _ _, launch0.least_env, fairChoices_fair.cas, fairChoices_fair.clock, w_frames, w_args, w_heap, w_applies, trivial, w_rest, w_case⟩
end start1
theorem witness_1 : WitnessClaimed_1 := ⟨start1.p0, start1.e0, start1.about1, start1.theMethod, start1.args0, start1.below0, start1.atStart⟩
end Jvm.Pilot.@@N@@
