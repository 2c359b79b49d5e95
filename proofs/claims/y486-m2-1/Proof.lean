import JvmDerived
import JvmDerived.Pilot.@@N@@Statement
import JvmDerived.Pilot.@@N@@Code
set_option linter.unusedVariables false
set_option linter.unusedSimpArgs false

/- laws to paste: Road.backV, Road.codOf (cut by pick.py; bodies as the Statement names them) -/
namespace Jvm.Pilot.@@N@@
namespace StrChars
open Jvm Sem ClassFile Op Lib Jvm.Stand Jvm.Free.XT Jvm.Free.ALB Jvm.Free.JM Jvm.Free
open Jvm.Lib.Cold (StaticIs)
/-- a char array whose places are chars -/
def Ch (a : Addr) (A : Cell) (U : State) : Prop := Arr .char a A U ∧ Typed .char A
theorem Ch.mv {a : Addr} {A : Cell} {U U' : State} (h : Ch a A U) (hal : U.vm.Alike U'.vm) (hh : U'.heap = U.heap) : Ch a A U' := ⟨h.1.mv hal hh, h.2⟩
theorem Ch.keep {a : Addr} {A : Cell} {U U' : State} (h : Ch a A U) (hal : U.vm.Alike U'.vm) (hk : U'.heap[a]? = some A) : Ch a A U' := ⟨h.1.keep hal hk, h.2⟩
/-- what place i of a char[]'s cell holds -/
def cv (A : Cell) (i : Nat) : Int32 := match A.slots[i]? with | some (.int x) => x | _ => 0
theorem Ch.get {a : Addr} {A : Cell} {U : State} (h : Ch a A U) {i : Nat} (hi : i < A.slots.size) : A.slots[i]? = some (.int (cv A i)) := by
  have e := Array.getElem?_eq_getElem hi
  have f := h.2 i _ e
  unfold cv; rw [e]
  generalize A.slots[i] = v at f
  cases v <;> simp [fits] at f ⊢
/-- the byte that i2b leaves of a char -/
def lo8 (x : Int32) : Int32 := x.toInt8.toInt32
theorem fits_lo8 (y : Int32) : fits .byte (.int (lo8 y)) = true := by
  have h1 := y.toInt8.le_toInt
  have h2 := y.toInt8.toInt_lt
  simp only [lo8, fits, Bool.and_eq_true, decide_eq_true_eq, Int32.le_iff_toInt_le, Int8.toInt_toInt32, show (-128 : Int32).toInt = -128 from by decide, show (127 : Int32).toInt = 127 from by decide]
  omega
/-- A' is A but that each place j of lo .. hi - 1 holds f j -/
def Laid (A A' : Cell) (lo hi : Nat) (f : Nat → Value) : Prop := A'.cls = A.cls ∧ A'.vm = A.vm ∧ A'.slots.size = A.slots.size ∧ ∀ i, A'.slots[i]? = if lo ≤ i ∧ i < hi then some (f i) else A.slots[i]?
theorem Laid.zero (A : Cell) (lo : Nat) (f : Nat → Value) : Laid A A lo (lo + 0) f := ⟨rfl, rfl, rfl, fun i => by rw [if_neg (by omega)]⟩
theorem Laid.step {A Ak : Cell} {lo k : Nat} {f : Nat → Value} {v : Value} (h : Laid A Ak lo k f) (hlo : lo ≤ k) (hk : k < Ak.slots.size) (hv : v = f k) : Laid A (Ak.setSlot k v) lo (k + 1) f := by
  refine ⟨h.1, h.2.1, by simpa [Cell.setSlot] using h.2.2.1, fun i => ?_⟩
  by_cases e : k = i
  · subst e; rw [Cell.slots_setSlot_self v hk, if_pos (by omega), hv]
  · rw [Cell.slots_setSlot_ne v e, h.2.2.2 i]
    by_cases q : lo ≤ i ∧ i < k
    · rw [if_pos q, if_pos (by omega)]
    · rw [if_neg q, if_neg (by omega)]
def U16 : String := "java/lang/StringUTF16"
namespace Cmp5
def yN : MethodName := ⟨"java/lang/StringUTF16", "compress", "([CI[BII)I"⟩
abbrev yB : ByteArray := jdk_52_method_21_code
theorem d0 : decode yB 0 = .ok (.iconst 0, 1) := by decide +kernel
theorem d1 : decode yB 1 = .ok (.istore 5, 2) := by decide +kernel
theorem d3 : decode yB 3 = .ok (.iload 5, 2) := by decide +kernel
theorem d5 : decode yB 5 = .ok (.iload 4, 2) := by decide +kernel
theorem d7 : decode yB 7 = .ok (.if_icmp (.ge) 37, 3) := by decide +kernel
theorem d10 : decode yB 10 = .ok (.aload_n 0, 1) := by decide +kernel
theorem d11 : decode yB 11 = .ok (.iload_n 1, 1) := by decide +kernel
theorem d12 : decode yB 12 = .ok (.caload, 1) := by decide +kernel
theorem d13 : decode yB 13 = .ok (.istore 6, 2) := by decide +kernel
theorem d15 : decode yB 15 = .ok (.iload 6, 2) := by decide +kernel
theorem d17 : decode yB 17 = .ok (.sipush 255, 3) := by decide +kernel
theorem d20 : decode yB 20 = .ok (.if_icmp (.le) 6, 3) := by decide +kernel
theorem d26 : decode yB 26 = .ok (.aload_n 2, 1) := by decide +kernel
theorem d27 : decode yB 27 = .ok (.iload_n 3, 1) := by decide +kernel
theorem d28 : decode yB 28 = .ok (.iload 6, 2) := by decide +kernel
theorem d30 : decode yB 30 = .ok (.i2b, 1) := by decide +kernel
theorem d31 : decode yB 31 = .ok (.bastore, 1) := by decide +kernel
theorem d32 : decode yB 32 = .ok (.iinc 1 1, 3) := by decide +kernel
theorem d35 : decode yB 35 = .ok (.iinc 3 1, 3) := by decide +kernel
theorem d38 : decode yB 38 = .ok (.iinc 5 1, 3) := by decide +kernel
theorem d41 : decode yB 41 = .ok (.goto (-38), 3) := by decide +kernel
theorem d44 : decode yB 44 = .ok (.iload 4, 2) := by decide +kernel
theorem d46 : decode yB 46 = .ok (.ireturn, 1) := by decide +kernel
def site : List Cond := []
def tab : Cond := tabOf yN yB 7 (some .int) site
def P (b : Addr) (A : Cell) (d : Addr) (B : Cell) (o q len : Nat) (args : Array Value) (s : State) : Prop := args = #[.ref b, .int (Int32.ofNat o), .ref d, .int (Int32.ofNat q), .int (Int32.ofNat len)] ∧ Ch b A s ∧ Arr .byte d B s ∧ b ≠ d ∧ o + len ≤ A.slots.size ∧ q + len ≤ B.slots.size ∧ ∀ i, i < len → ¬ 255 < cv A (o + i)
def E (b : Addr) (A : Cell) (d : Addr) (B : Cell) (o q len : Nat) (r : Option Value) (s u : State) : Prop := r = some (.int (Int32.ofNat len)) ∧ ∃ B', Put d B' s u ∧ Laid B B' q (q + len) (fun j => Value.int (lo8 (cv A (o + (j - q)))))
/-- no char of the range above 255: len; the places written hold each char's low byte -/
theorem law (l : Launch) (b : Addr) (A : Cell) (d : Addr) (B : Cell) (o q len : Nat) : Law l yN 5 5 0 0 yB 7 (some .int) site (P b A d B o q len) (E b A d B o q len) (copyLocs d q len) 0 0 := by
  refine Law.of_walk (plainFor_of_name (by decide +kernel)) (by decide +kernel) (by decide +kernel) (by decide) (fun _ _ h => by rw [h.1]; rfl) (fun _ U U' hal hh h => ⟨h.1, h.2.1.mv hal hh, h.2.2.1.mv hal hh, h.2.2.2⟩) (fun r U U' V V' h1 hal h2 h => ⟨h.1, h.2.elim fun B' q => ⟨B', q.1.mv h1 h2, q.2⟩⟩) ?_
  intro p e s m args below meth c s₁ X0 hexec hbytes hml hret hlk hnm hown hh0 W hP
  obtain ⟨rfl, hA, hB, hne, l1, l2, hp⟩ := hP
  have c1 : Steps p.tables e below (s₁.setTop (entryFrame m #[.ref b, .int (Int32.ofNat o), .ref d, .int (Int32.ofNat q), .int (Int32.ofNat len)] 7)) (s₁.setTop (mkF m 0 #[.val (.ref b), .val (.int (Int32.ofNat o)), .val (.ref d), .val (.int (Int32.ofNat q)), .val (.int (Int32.ofNat len)), .unset, .unset] [])) := entry rfl
  have hA0 := hA.1.mv X0.warmed.alike hh0
  have hB0 := hB.mv X0.warmed.alike hh0
  have a31 := hA.1.2.2.2
  have c2 : Steps p.tables e below (s₁.setTop (entryFrame m #[.ref b, .int (Int32.ofNat o), .ref d, .int (Int32.ofNat q), .int (Int32.ofNat len)] 7)) (s₁.setTop (mkF m 3 #[.val (.ref b), .val (.int (Int32.ofNat o)), .val (.ref d), .val (.int (Int32.ofNat q)), .val (.int (Int32.ofNat len)), .val (.int 0), .unset] [])) := c1.trans (by
    refine iconstV X0.here hexec rfl 0 (hb hbytes d0) (by decide) ?_
    refine XS.istore X0.here hexec rfl (hb hbytes d1) rfl rfl ?_
    exact Steps.refl _)
  have loop : ∀ (r i : Nat), i + r = len → ∀ (z : Slot), (z = .unset ∨ ∃ w, z = .val w ∧ w.category = 1) → ∀ (Tl : State) (Bk : Cell), Stand p l e { frames := 0, locals := 0, cells := 0, slots := 0 } s m #[.ref b, .int (Int32.ofNat o), .ref d, .int (Int32.ofNat q), .int (Int32.ofNat len)] below meth c Tl ([] ++ copyLocs d q i) 0 0 → Put d Bk s₁ Tl → Laid B Bk q (q + i) (fun j => Value.int (lo8 (cv A (o + (j - q))))) →
      Steps p.tables e below (s₁.setTop (entryFrame m #[.ref b, .int (Int32.ofNat o), .ref d, .int (Int32.ofNat q), .int (Int32.ofNat len)] 7)) (Tl.setTop (mkF m 3 #[.val (.ref b), .val (.int (Int32.ofNat (o + i))), .val (.ref d), .val (.int (Int32.ofNat (q + i))), .val (.int (Int32.ofNat len)), .val (.int (Int32.ofNat i)), z] [])) → ∃ (T' : State) (B' : Cell) (z' : Slot), Stand p l e { frames := 0, locals := 0, cells := 0, slots := 0 } s m #[.ref b, .int (Int32.ofNat o), .ref d, .int (Int32.ofNat q), .int (Int32.ofNat len)] below meth c T' ([] ++ copyLocs d q len) 0 0 ∧ Put d B' s₁ T' ∧ Laid B B' q (q + len) (fun j => Value.int (lo8 (cv A (o + (j - q))))) ∧
      Steps p.tables e below (s₁.setTop (entryFrame m #[.ref b, .int (Int32.ofNat o), .ref d, .int (Int32.ofNat q), .int (Int32.ofNat len)] 7)) (T'.setTop (mkF m 3 #[.val (.ref b), .val (.int (Int32.ofNat (o + len))), .val (.ref d), .val (.int (Int32.ofNat (q + len))), .val (.int (Int32.ofNat len)), .val (.int (Int32.ofNat len)), z'] [])) := by
    intro r
    induction r with
    | zero =>
      intro i hi z hz Tl Bk Xl pl fl cl
      have hil : i = len := by omega
      rw [hil] at Xl fl cl
      exact ⟨Tl, Bk, z, Xl, pl, fl, cl⟩
    | succ r ih =>
      intro i hi z hz Tl Bk Xl pl fl cl
      have all := X0.warmed.alike.symm.trans Xl.warmed.alike
      have hAl := hA0.keep all (pl.other hne hA0.1)
      have hBk := hB0.like all pl.1 fl.1 fl.2.1 fl.2.2.1
      have hlt : q + i < Bk.slots.size := by rw [fl.2.2.1]; omega
      have c3 : Steps p.tables e below (s₁.setTop (entryFrame m #[.ref b, .int (Int32.ofNat o), .ref d, .int (Int32.ofNat q), .int (Int32.ofNat len)] 7)) (Tl.setTop (mkF m 12 #[.val (.ref b), .val (.int (Int32.ofNat (o + i))), .val (.ref d), .val (.int (Int32.ofNat (q + i))), .val (.int (Int32.ofNat len)), .val (.int (Int32.ofNat i)), z] [.int (Int32.ofNat (o + i)), .ref b])) := cl.trans (by
        refine XS.iload Xl.here hexec rfl (hb hbytes d3) rfl ?_
        refine XS.iload Xl.here hexec rfl (hb hbytes d5) rfl ?_
        refine XS.icmpNo Xl.here hexec rfl (hb hbytes d7) rfl (ii_ge_f (lt32 (by omega) (by omega))) ?_
        refine XS.aloadN Xl.here hexec rfl (hb hbytes d10) rfl rfl ?_
        refine XS.iloadN Xl.here hexec rfl (hb hbytes d11) rfl ?_
        exact Steps.refl _)
      have c4 : Steps p.tables e below (s₁.setTop (entryFrame m #[.ref b, .int (Int32.ofNat o), .ref d, .int (Int32.ofNat q), .int (Int32.ofNat len)] 7)) (Tl.setTop (mkF m 13 #[.val (.ref b), .val (.int (Int32.ofNat (o + i))), .val (.ref d), .val (.int (Int32.ofNat (q + i))), .val (.int (Int32.ofNat len)), .val (.int (Int32.ofNat i)), z] [.int (cv A (o + i))])) := c3.trans (by
        refine Xl.aget hexec hAl rfl (hA.get (i := o + i) (by omega)) rfl rfl (hb hbytes d12) ?_
        exact Steps.refl _)
      have c5 : Steps p.tables e below (s₁.setTop (entryFrame m #[.ref b, .int (Int32.ofNat o), .ref d, .int (Int32.ofNat q), .int (Int32.ofNat len)] 7)) (Tl.setTop (mkF m 15 #[.val (.ref b), .val (.int (Int32.ofNat (o + i))), .val (.ref d), .val (.int (Int32.ofNat (q + i))), .val (.int (Int32.ofNat len)), .val (.int (Int32.ofNat i)), .val (.int (cv A (o + i)))] [])) := c4.trans (by
        refine XS.istoreS Xl.here hexec rfl (hb hbytes d13) rfl rfl hz ?_
        exact Steps.refl _)
      have c6 : Steps p.tables e below (s₁.setTop (entryFrame m #[.ref b, .int (Int32.ofNat o), .ref d, .int (Int32.ofNat q), .int (Int32.ofNat len)] 7)) (Tl.setTop (mkF m 31 #[.val (.ref b), .val (.int (Int32.ofNat (o + i))), .val (.ref d), .val (.int (Int32.ofNat (q + i))), .val (.int (Int32.ofNat len)), .val (.int (Int32.ofNat i)), .val (.int (cv A (o + i)))] [.int (lo8 (cv A (o + i))), .int (Int32.ofNat (q + i)), .ref d])) := c5.trans (by
        refine XS.iload Xl.here hexec rfl (hb hbytes d15) rfl ?_
        refine sipushV Xl.here hexec rfl 255 (hb hbytes d17) (by decide) ?_
        refine XS.icmpYes Xl.here hexec rfl (pc0 := 20) rfl (hb hbytes d20) rfl (ii_le_t (hp i (by omega))) (by decide) rfl ?_
        refine XS.aloadN Xl.here hexec rfl (hb hbytes d26) rfl rfl ?_
        refine XS.iloadN Xl.here hexec rfl (hb hbytes d27) rfl ?_
        refine XS.iload Xl.here hexec rfl (hb hbytes d28) rfl ?_
        refine i2b Xl.here hexec rfl (hb hbytes d30) rfl ?_
        exact Steps.refl _)
      obtain ⟨T7, X7, p7, st7⟩ := Xl.aput hexec hBk rfl hlt rfl (fits_lo8 (cv A (o + i))) (g := (mkF m 31 #[.val (.ref b), .val (.int (Int32.ofNat (o + i))), .val (.ref d), .val (.int (Int32.ofNat (q + i))), .val (.int (Int32.ofNat len)), .val (.int (Int32.ofNat i)), .val (.int (cv A (o + i)))] [.int (lo8 (cv A (o + i))), .int (Int32.ofNat (q + i)), .ref d])) rfl (rest := []) rfl (hb hbytes d31)
      have c8 : Steps p.tables e below (s₁.setTop (entryFrame m #[.ref b, .int (Int32.ofNat o), .ref d, .int (Int32.ofNat q), .int (Int32.ofNat len)] 7)) (T7.setTop (mkF m 32 #[.val (.ref b), .val (.int (Int32.ofNat (o + i))), .val (.ref d), .val (.int (Int32.ofNat (q + i))), .val (.int (Int32.ofNat len)), .val (.int (Int32.ofNat i)), .val (.int (cv A (o + i)))] [])) := c6.trans (st7 _ (Steps.refl _))
      have c9 : Steps p.tables e below (s₁.setTop (entryFrame m #[.ref b, .int (Int32.ofNat o), .ref d, .int (Int32.ofNat q), .int (Int32.ofNat len)] 7)) (T7.setTop (mkF m 3 #[.val (.ref b), .val (.int (Int32.ofNat (o + i) + 1)), .val (.ref d), .val (.int (Int32.ofNat (q + i) + 1)), .val (.int (Int32.ofNat len)), .val (.int (Int32.ofNat i + 1)), .val (.int (cv A (o + i)))] [])) := c8.trans (by
        refine iincV X7.here hexec rfl 1 (hb hbytes d32) (by decide) rfl rfl ?_
        refine iincV X7.here hexec rfl 1 (hb hbytes d35) (by decide) rfl rfl ?_
        refine iincV X7.here hexec rfl 1 (hb hbytes d38) (by decide) rfl rfl ?_
        refine XS.goto X7.here hexec rfl (pc0 := 41) rfl (hb hbytes d41) (by decide) rfl ?_
        exact Steps.refl _)
      have c10 : Steps p.tables e below (s₁.setTop (entryFrame m #[.ref b, .int (Int32.ofNat o), .ref d, .int (Int32.ofNat q), .int (Int32.ofNat len)] 7)) (T7.setTop (mkF m 3 #[.val (.ref b), .val (.int (Int32.ofNat (o + (i + 1)))), .val (.ref d), .val (.int (Int32.ofNat (q + (i + 1)))), .val (.int (Int32.ofNat len)), .val (.int (Int32.ofNat (i + 1))), .val (.int (cv A (o + i)))] [])) := by
        have := c9
        rw [succ32, succ32, succ32] at this
        exact this
      exact ih (i + 1) (by omega) _ (Or.inr ⟨_, rfl, rfl⟩) T7 _ (by rw [copyLocs_step, ← List.append_assoc]; exact X7) (pl.trans p7) (fl.step (by omega) hlt (by simp)) c10
  obtain ⟨T9, B9, z9, X9, p9, f9, g9⟩ := loop len 0 (by omega) .unset (Or.inl rfl) s₁ B (by simpa [copyLocs] using X0) ⟨hB0.1, fun _ _ => rfl, rfl⟩ (Laid.zero _ _ _) c2
  have c11 : Steps p.tables e below (s₁.setTop (entryFrame m #[.ref b, .int (Int32.ofNat o), .ref d, .int (Int32.ofNat q), .int (Int32.ofNat len)] 7)) (T9.setTop (mkF m 46 #[.val (.ref b), .val (.int (Int32.ofNat (o + len))), .val (.ref d), .val (.int (Int32.ofNat (q + len))), .val (.int (Int32.ofNat len)), .val (.int (Int32.ofNat len)), z9] [.int (Int32.ofNat len)])) := g9.trans (by
    refine XS.iload X9.here hexec rfl (hb hbytes d3) rfl ?_
    refine XS.iload X9.here hexec rfl (hb hbytes d5) rfl ?_
    refine XS.icmpYes X9.here hexec rfl (pc0 := 7) rfl (hb hbytes d7) rfl (ii_ge_t (nlt32 (by omega) (Nat.le_refl _))) (by decide) rfl ?_
    refine XS.iload X9.here hexec rfl (hb hbytes d44) rfl ?_
    exact Steps.refl _)
  exact ⟨T9, some (.int (Int32.ofNat len)), _, _, _, X9, by simp, rfl, rfl, (fun h => by cases h), ⟨rfl, B9, p9.from hh0, f9⟩, fun fs hl => c11.trans (X9.ireturnOut hexec hret rfl (Or.inl rfl) (hb hbytes d46) hl)⟩
end Cmp5
namespace Cmp3
def yN : MethodName := ⟨"java/lang/StringUTF16", "compress", "([CII)[B"⟩
abbrev yB : ByteArray := jdk_52_method_16_code
theorem d0 : decode yB 0 = .ok (.iload_n 2, 1) := by decide +kernel
theorem d1 : decode yB 1 = .ok (.newarray .byte, 2) := by decide +kernel
theorem d3 : decode yB 3 = .ok (.astore_n 3, 1) := by decide +kernel
theorem d4 : decode yB 4 = .ok (.aload_n 0, 1) := by decide +kernel
theorem d5 : decode yB 5 = .ok (.iload_n 1, 1) := by decide +kernel
theorem d6 : decode yB 6 = .ok (.aload_n 3, 1) := by decide +kernel
theorem d7 : decode yB 7 = .ok (.iconst 0, 1) := by decide +kernel
theorem d8 : decode yB 8 = .ok (.iload_n 2, 1) := by decide +kernel
theorem d9 : decode yB 9 = .ok (.invokestatic 115, 3) := by decide +kernel
theorem d12 : decode yB 12 = .ok (.istore 4, 2) := by decide +kernel
theorem d14 : decode yB 14 = .ok (.iload 4, 2) := by decide +kernel
theorem d16 : decode yB 16 = .ok (.iload_n 2, 1) := by decide +kernel
theorem d17 : decode yB 17 = .ok (.if_icmp (.eq) 40, 3) := by decide +kernel
theorem d57 : decode yB 57 = .ok (.aload_n 3, 1) := by decide +kernel
theorem d58 : decode yB 58 = .ok (.areturn, 1) := by decide +kernel
def site : List Cond := [.arrayClass .byte, Cmp5.tab] ++ staticW U16 115 Cmp5.yN
def tab : Cond := tabOf yN yB 6 (some (.array .byte)) site
def P (b : Addr) (A : Cell) (o len : Nat) (args : Array Value) (s : State) : Prop := args = #[.ref b, .int (Int32.ofNat o), .int (Int32.ofNat len)] ∧ Ch b A s ∧ o + len ≤ A.slots.size ∧ len ≤ 536870912 ∧ ∀ i, i < len → ¬ 255 < cv A (o + i)
def E (b : Addr) (A : Cell) (o len : Nat) (r : Option Value) (s u : State) : Prop := NewArr .byte "[B" len (fun j => .int (lo8 (cv A (o + j)))) r s u ∧ u.heap.size = s.heap.size + 1
/-- no char of the range above 255: a new byte[] of their low bytes -/
theorem law (l : Launch) (b : Addr) (A : Cell) (o len : Nat) : Law l yN 3 3 1 18 yB 6 (some (.array .byte)) site (P b A o len) (E b A o len) [] 1 len := by
  refine Law.of_walk (plainFor_of_name (by decide +kernel)) (by decide +kernel) (by decide +kernel) (by decide) (fun _ _ h => by rw [h.1]; rfl) (fun _ U U' hal hh h => ⟨h.1, h.2.1.mv hal hh, h.2.2⟩) (fun r U U' V V' h1 hal h2 h => ⟨NewArr.mv r U U' V V' h1 hal h2 h.1, by rw [h1, h2]; exact h.2⟩) ?_
  intro p e s m args below meth c s₁ X0 hexec hbytes hml hret hlk hnm hown hh0 W hP
  obtain ⟨rfl, hA, l1, l2, hp⟩ := hP
  have a31 := hA.1.2.2.2
  have c1 : Steps p.tables e below (s₁.setTop (entryFrame m #[.ref b, .int (Int32.ofNat o), .int (Int32.ofNat len)] 6)) (s₁.setTop (mkF m 0 #[.val (.ref b), .val (.int (Int32.ofNat o)), .val (.int (Int32.ofNat len)), .unset, .unset, .unset] [])) := entry rfl
  have c2 : Steps p.tables e below (s₁.setTop (entryFrame m #[.ref b, .int (Int32.ofNat o), .int (Int32.ofNat len)] 6)) (s₁.setTop (mkF m 1 #[.val (.ref b), .val (.int (Int32.ofNat o)), .val (.int (Int32.ofNat len)), .unset, .unset, .unset] [.int (Int32.ofNat len)])) := c1.trans (by
    refine XS.iloadN X0.here hexec rfl (hb hbytes d0) rfl ?_
    exact Steps.refl _)
  obtain ⟨T3, B3, X3, ba3, bs3, bv3, bh3, bf3, st3⟩ := X0.anew hexec (atype := .byte) (wk W (.arrayClass .byte)) rfl (by show len * 1 ≤ _; omega) (by omega) (g := (mkF m 1 #[.val (.ref b), .val (.int (Int32.ofNat o)), .val (.int (Int32.ofNat len)), .unset, .unset, .unset] [.int (Int32.ofNat len)])) rfl (hb hbytes d1) (rest := []) rfl (Nat.le_refl _) (by show 0 + len ≤ len; omega)
  rw [hh0] at ba3 st3
  have kp3 : XT.Kept s T3 := (XT.Kept.of_eq hh0).push bh3
  have hA3 := hA.keep X3.warmed.alike (kp3 _ _ hA.1.1)
  have hne : b ≠ s.heap.size := hA.1.ne
  have c4 : Steps p.tables e below (s₁.setTop (entryFrame m #[.ref b, .int (Int32.ofNat o), .int (Int32.ofNat len)] 6)) (T3.setTop (mkF m 3 #[.val (.ref b), .val (.int (Int32.ofNat o)), .val (.int (Int32.ofNat len)), .unset, .unset, .unset] [.ref s.heap.size])) := c2.trans (st3 _ (Steps.refl _))
  have c5 : Steps p.tables e below (s₁.setTop (entryFrame m #[.ref b, .int (Int32.ofNat o), .int (Int32.ofNat len)] 6)) (T3.setTop (mkF m 9 #[.val (.ref b), .val (.int (Int32.ofNat o)), .val (.int (Int32.ofNat len)), .val (.ref s.heap.size), .unset, .unset] [.int (Int32.ofNat len), .int 0, .ref s.heap.size, .int (Int32.ofNat o), .ref b])) := c4.trans (by
    refine XS.astoreN X3.here hexec rfl (hb hbytes d3) rfl rfl rfl ?_
    refine XS.aloadN X3.here hexec rfl (hb hbytes d4) rfl rfl ?_
    refine XS.iloadN X3.here hexec rfl (hb hbytes d5) rfl ?_
    refine XS.aloadN X3.here hexec rfl (hb hbytes d6) rfl rfl ?_
    refine iconstV X3.here hexec rfl 0 (hb hbytes d7) (by decide) ?_
    refine XS.iloadN X3.here hexec rfl (hb hbytes d8) rfl ?_
    exact Steps.refl _)
  obtain ⟨v6, T6, X6, E6, g6⟩ := X3.callS hexec (Cmp5.law l b A s.heap.size B3 o 0 len) hown (wks W (staticW U16 115 Cmp5.yN)) (wk W Cmp5.tab) (W := 0) (Nat.le_of_ble_eq_true rfl) (Nat.le_of_ble_eq_true rfl) (Nat.le_refl _) (by show 0 + len + 0 ≤ len; omega) (g := (mkF m 9 #[.val (.ref b), .val (.int (Int32.ofNat o)), .val (.int (Int32.ofNat len)), .val (.ref s.heap.size), .unset, .unset] [.int (Int32.ofNat len), .int (Int32.ofNat 0), .ref s.heap.size, .int (Int32.ofNat o), .ref b])) rfl (by rw [hml]; rfl) c5 (argsL := [.ref b, .int (Int32.ofNat o), .ref s.heap.size, .int (Int32.ofNat 0), .int (Int32.ofNat len)]) (rest := []) rfl rfl (by show 2 * 0 + 0 ≤ _; decide) (hb hbytes d9) (⟨rfl, hA3, ba3, hne, l1, by rw [bs3]; simp, hp⟩)
  obtain ⟨rfl, B6, p6, f6⟩ := E6
  have c7 : Steps p.tables e below (s₁.setTop (entryFrame m #[.ref b, .int (Int32.ofNat o), .int (Int32.ofNat len)] 6)) (T6.setTop (mkF m 12 #[.val (.ref b), .val (.int (Int32.ofNat o)), .val (.int (Int32.ofNat len)), .val (.ref s.heap.size), .unset, .unset] [.int (Int32.ofNat len)])) := g6
  have c8 : Steps p.tables e below (s₁.setTop (entryFrame m #[.ref b, .int (Int32.ofNat o), .int (Int32.ofNat len)] 6)) (T6.setTop (mkF m 58 #[.val (.ref b), .val (.int (Int32.ofNat o)), .val (.int (Int32.ofNat len)), .val (.ref s.heap.size), .val (.int (Int32.ofNat len)), .unset] [.ref s.heap.size])) := c7.trans (by
    refine XS.istore X6.here hexec rfl (hb hbytes d12) rfl rfl ?_
    refine XS.iload X6.here hexec rfl (hb hbytes d14) rfl ?_
    refine XS.iloadN X6.here hexec rfl (hb hbytes d16) rfl ?_
    refine XS.icmpYes X6.here hexec rfl (pc0 := 17) rfl (hb hbytes d17) rfl (ii_eq_t rfl) (by decide) rfl ?_
    refine XS.aloadN X6.here hexec rfl (hb hbytes d57) rfl rfl ?_
    exact Steps.refl _)
  have X8 := X6.wide (L' := []) (cells' := 1) (slots' := len) (fun x hx hlt => by
    simp only [List.nil_append, copyLocs, List.mem_map, List.mem_range] at hx
    obtain ⟨i, -, rfl⟩ := hx
    exact absurd hlt (Nat.lt_irrefl _)) (Nat.le_refl _) (by omega)
  exact ⟨T6, some (.ref s.heap.size), _, _, _, X8, rfl, rfl, rfl, (fun h => by cases h), ⟨⟨rfl, B6, ba3.like (X3.warmed.alike.symm.trans X6.warmed.alike) p6.1 f6.1 f6.2.1 f6.2.2.1, f6.2.1.trans bv3, by rw [X6.warmed.alike.findClass, f6.1]; exact bf3, by rw [f6.2.2.1, bs3]; simp, fun j hj => by rw [f6.2.2.2 j, if_pos (by omega)]; rfl, kp3.put p6 (Nat.le_refl _)⟩, by rw [p6.2.2, bh3, hh0]; simp⟩, fun fs hl => c8.trans (X8.areturnOut hexec rfl hret rfl (hb hbytes d58) hl)⟩
end Cmp3
namespace CodL
def yN : MethodName := ⟨"java/lang/StringUTF16", "coderFromArrayLen", "([BI)B"⟩
abbrev yB : ByteArray := jdk_52_method_15_code
theorem d0 : decode yB 0 = .ok (.iload_n 1, 1) := by decide +kernel
theorem d1 : decode yB 1 = .ok (.aload_n 0, 1) := by decide +kernel
theorem d2 : decode yB 2 = .ok (.arraylength, 1) := by decide +kernel
theorem d3 : decode yB 3 = .ok (.isub, 1) := by decide +kernel
theorem d4 : decode yB 4 = .ok (.bipush 31, 2) := by decide +kernel
theorem d6 : decode yB 6 = .ok (.iushr, 1) := by decide +kernel
theorem d7 : decode yB 7 = .ok (.i2b, 1) := by decide +kernel
theorem d8 : decode yB 8 = .ok (.ireturn, 1) := by decide +kernel
def site : List Cond := []
def tab : Cond := tabOf yN yB 2 (some .byte) site
def P (d : Addr) (B : Cell) (args : Array Value) (s : State) : Prop := args = #[.ref d, .int (Int32.ofNat B.slots.size)] ∧ Arr .byte d B s
def E (r : Option Value) (s u : State) : Prop := XT.PureE (some (.int 0)) r s u
/-- an array as long as the number of chars: LATIN1 -/
theorem law (l : Launch) (d : Addr) (B : Cell) : Law l yN 2 2 0 0 yB 2 (some .byte) site (P d B) E [] 0 0 := by
  refine Law.of_walk (plainFor_of_name (by decide +kernel)) (by decide +kernel) (by decide +kernel) (by decide) (fun _ _ h => by rw [h.1]; rfl) (fun _ U U' hal hh h => ⟨h.1, h.2.mv hal hh⟩) (fun r U U' V V' h1 hal h2 h => XT.PureE.mv r U U' V V' h1 hal h2 h) ?_
  intro p e s m args below meth c s₁ X0 hexec hbytes hml hret hlk hnm hown hh0 W hP
  obtain ⟨rfl, hB⟩ := hP
  have hB0 := hB.mv X0.warmed.alike hh0
  have c1 : Steps p.tables e below (s₁.setTop (entryFrame m #[.ref d, .int (Int32.ofNat B.slots.size)] 2)) (s₁.setTop (mkF m 0 #[.val (.ref d), .val (.int (Int32.ofNat B.slots.size))] [])) := entry rfl
  have c2 : Steps p.tables e below (s₁.setTop (entryFrame m #[.ref d, .int (Int32.ofNat B.slots.size)] 2)) (s₁.setTop (mkF m 2 #[.val (.ref d), .val (.int (Int32.ofNat B.slots.size))] [.ref d, .int (Int32.ofNat B.slots.size)])) := c1.trans (by
    refine XS.iloadN X0.here hexec rfl (hb hbytes d0) rfl ?_
    refine XS.aloadN X0.here hexec rfl (hb hbytes d1) rfl rfl ?_
    exact Steps.refl _)
  have c3 : Steps p.tables e below (s₁.setTop (entryFrame m #[.ref d, .int (Int32.ofNat B.slots.size)] 2)) (s₁.setTop (mkF m 8 #[.val (.ref d), .val (.int (Int32.ofNat B.slots.size))] [.int (lo8 (ushr (Int32.ofNat B.slots.size - Int32.ofNat B.slots.size) 31))])) := c2.trans (by
    refine X0.alen hexec hB0 rfl rfl (hb hbytes d2) ?_
    refine XS.isub X0.here hexec rfl (hb hbytes d3) rfl ?_
    refine bipushV X0.here hexec rfl 31 (hb hbytes d4) (by decide) ?_
    refine iushr X0.here hexec rfl (hb hbytes d6) rfl ?_
    refine i2b X0.here hexec rfl (hb hbytes d7) rfl ?_
    exact Steps.refl _)
  have e0 : lo8 (ushr (Int32.ofNat B.slots.size - Int32.ofNat B.slots.size) 31) = 0 := by rw [Int32.sub_self]; decide
  rw [e0] at c3
  exact ⟨s₁, some (.int 0), _, _, _, X0, rfl, rfl, rfl, (fun h => by cases h), ⟨rfl, hh0⟩, fun fs hl => c3.trans (X0.ireturnOut hexec hret rfl (Or.inr (Or.inr (Or.inl rfl))) (hb hbytes d8) hl)⟩
end CodL
/-- the String at a is Latin-1 over a new byte[] (the heap's one new cell): the low bytes of the len chars of A from o on; every cell but a is kept -/
def Got (a : Addr) (D : Cell) (fV fC : Field) (A : Cell) (o len : Nat) (r : Option Value) (s u : State) : Prop := r = none ∧ ∃ D' V : Cell, Blank "java/lang/String" a D' u ∧ Same D D' [fV.slot, fC.slot] ∧ D'.slots[fV.slot]? = some (.ref s.heap.size) ∧ D'.slots[fC.slot]? = some (.int 0) ∧ Arr .byte s.heap.size V u ∧ V.vm = .none ∧ u.vm.findClass "[B" = some V.cls ∧ V.slots.size = len ∧ (∀ j, j < len → V.slots[j]? = some (.int (lo8 (cv A (o + j))))) ∧ (∀ (y : Addr) (c : Cell), y ≠ a → s.heap[y]? = some c → u.heap[y]? = some c) ∧ u.heap.size = s.heap.size + 1
theorem Got.mv {a : Addr} {D A : Cell} {fV fC : Field} {o len : Nat} : ∀ r (U U' V V' : State), U'.heap = U.heap → V.vm.Alike V'.vm → V'.heap = V.heap → Got a D fV fC A o len r U V → Got a D fV fC A o len r U' V' :=
  fun r U U' V V' h1 hal h2 ⟨e0, D', X, a1, a2, a3, a4, a5, a6, a7, a8, a9, a10, a11⟩ => ⟨e0, D', X, a1.mv hal h2, a2, by rw [h1]; exact a3, a4, by rw [h1]; exact a5.mv hal h2, a6, by rw [hal.findClass]; exact a7, a8, a9, by rw [h1, h2]; exact a10, by rw [h1, h2]; exact a11⟩
namespace New4
def yN : MethodName := ⟨"java/lang/String", "<init>", "([CIILjava/lang/Void;)V"⟩
abbrev yB : ByteArray := jdk_42_method_149_code
theorem d0 : decode yB 0 = .ok (.aload_n 0, 1) := by decide +kernel
theorem d1 : decode yB 1 = .ok (.invokespecial 1, 3) := by decide +kernel
theorem d4 : decode yB 4 = .ok (.iload_n 3, 1) := by decide +kernel
theorem d5 : decode yB 5 = .ok (.ifCond (.ne) 22, 3) := by decide +kernel
theorem d27 : decode yB 27 = .ok (.getstatic 38, 3) := by decide +kernel
theorem d30 : decode yB 30 = .ok (.ifCond (.eq) 28, 3) := by decide +kernel
theorem d33 : decode yB 33 = .ok (.aload_n 1, 1) := by decide +kernel
theorem d34 : decode yB 34 = .ok (.iload_n 2, 1) := by decide +kernel
theorem d35 : decode yB 35 = .ok (.iload_n 3, 1) := by decide +kernel
theorem d36 : decode yB 36 = .ok (.invokestatic 177, 3) := by decide +kernel
theorem d39 : decode yB 39 = .ok (.astore 5, 2) := by decide +kernel
theorem d41 : decode yB 41 = .ok (.aload_n 0, 1) := by decide +kernel
theorem d42 : decode yB 42 = .ok (.aload 5, 2) := by decide +kernel
theorem d44 : decode yB 44 = .ok (.iload_n 3, 1) := by decide +kernel
theorem d45 : decode yB 45 = .ok (.invokestatic 47, 3) := by decide +kernel
theorem d48 : decode yB 48 = .ok (.putfield 15, 3) := by decide +kernel
theorem d51 : decode yB 51 = .ok (.aload_n 0, 1) := by decide +kernel
theorem d52 : decode yB 52 = .ok (.aload 5, 2) := by decide +kernel
theorem d54 : decode yB 54 = .ok (.putfield 9, 3) := by decide +kernel
theorem d57 : decode yB 57 = .ok (.return_, 1) := by decide +kernel
def site : List Cond := [.fieldLink "java/lang/String" 38 "java/lang/String" "COMPACT_STRINGS" "Z", Cmp3.tab, CodL.tab, .laysFinal "java/lang/String" "java/lang/String" "value" "[B", .fieldLink "java/lang/String" 9 "java/lang/String" "value" "[B", .laysFinal "java/lang/String" "java/lang/String" "coder" "B", .fieldLink "java/lang/String" 15 "java/lang/String" "coder" "B"] ++ objW "java/lang/String" 1 ++ staticW "java/lang/String" 177 Cmp3.yN ++ staticW "java/lang/String" 47 CodL.yN
def tab : Cond := tabOf yN yB 6 none site
def P (a : Addr) (D : Cell) (fV fC : Field) (b : Addr) (A : Cell) (z : Int32) (o len : Nat) (args : Array Value) (s : State) : Prop := args = #[.ref a, .ref b, .int (Int32.ofNat o), .int (Int32.ofNat len), .null] ∧ Blank "java/lang/String" a D s ∧ Found "java/lang/String" "value" "[B" fV s ∧ Found "java/lang/String" "coder" "B" fC s ∧ Ch b A s ∧ StaticIs s "java/lang/String" "COMPACT_STRINGS" "Z" (.int z) ∧ ¬ z = 0 ∧ 0 < len ∧ o + len ≤ A.slots.size ∧ len ≤ 536870912 ∧ ∀ i, i < len → ¬ 255 < cv A (o + i)
def E (a : Addr) (D : Cell) (fV fC : Field) (A : Cell) (o len : Nat) (r : Option Value) (s u : State) : Prop := Got a D fV fC A o len r s u
/-- len > 0, no char of the range above 255: a Latin-1 String of their low bytes -/
theorem law (l : Launch) (a : Addr) (D : Cell) (fV fC : Field) (b : Addr) (A : Cell) (z : Int32) (o len : Nat) : Law l yN 5 4 2 35 yB 6 none site (P a D fV fC b A z o len) (E a D fV fC A o len) [⟨a, fC.slot⟩, ⟨a, fV.slot⟩] 1 len := by
  refine Law.of_walk (plainFor_of_name (by decide +kernel)) (by decide +kernel) (by decide +kernel) (by decide) (fun _ _ h => by rw [h.1]; rfl) (fun _ U U' hal hh h => ⟨h.1, h.2.1.mv hal hh, h.2.2.1.al hal, h.2.2.2.1.al hal, h.2.2.2.2.1.mv hal hh, h.2.2.2.2.2.1.there hal hh, h.2.2.2.2.2.2⟩) (fun r U U' V V' h1 hal h2 h => Got.mv r U U' V V' h1 hal h2 h) ?_
  intro p e s m args below meth c s₁ X0 hexec hbytes hml hret hlk hnm hown hh0 W hP
  obtain ⟨rfl, hB, f1, f2, hA, s1, hz, l0, l1, l2, hp⟩ := hP
  have a31 := hA.1.2.2.2
  have c1 : Steps p.tables e below (s₁.setTop (entryFrame m #[.ref a, .ref b, .int (Int32.ofNat o), .int (Int32.ofNat len), .null] 6)) (s₁.setTop (mkF m 0 #[.val (.ref a), .val (.ref b), .val (.int (Int32.ofNat o)), .val (.int (Int32.ofNat len)), .val .null, .unset] [])) := entry rfl
  have c2 : Steps p.tables e below (s₁.setTop (entryFrame m #[.ref a, .ref b, .int (Int32.ofNat o), .int (Int32.ofNat len), .null] 6)) (s₁.setTop (mkF m 1 #[.val (.ref a), .val (.ref b), .val (.int (Int32.ofNat o)), .val (.int (Int32.ofNat len)), .val .null, .unset] [.ref a])) := c1.trans (by
    refine XS.aloadN X0.here hexec rfl (hb hbytes d0) rfl rfl ?_
    exact Steps.refl _)
  obtain ⟨T3, X3, q3, st3⟩ := X0.oinit hexec hown (wks W (objW "java/lang/String" 1)) (g := (mkF m 1 #[.val (.ref a), .val (.ref b), .val (.int (Int32.ofNat o)), .val (.int (Int32.ofNat len)), .val .null, .unset] [.ref a])) rfl (by rw [hml]; rfl) (rest := []) rfl (hb hbytes d1) (W := 0) (by show 2 * 0 + 0 ≤ _; decide) (Nat.le_of_ble_eq_true rfl) (Nat.le_of_ble_eq_true rfl)
  have hh3 := q3.trans hh0
  have c4 : Steps p.tables e below (s₁.setTop (entryFrame m #[.ref a, .ref b, .int (Int32.ofNat o), .int (Int32.ofNat len), .null] 6)) (T3.setTop (mkF m 27 #[.val (.ref a), .val (.ref b), .val (.int (Int32.ofNat o)), .val (.int (Int32.ofNat len)), .val .null, .unset] [])) := (c2.trans (st3 _ (Steps.refl _))).trans (by
    refine XS.iloadN X3.here hexec rfl (hb hbytes d4) rfl ?_
    refine XS.ifYes X3.here hexec rfl (pc0 := 5) rfl (hb hbytes d5) rfl (i0_ne_t (nz32 (by omega) l0)) (by decide) rfl ?_
    exact Steps.refl _)
  obtain ⟨T5, X5, q5, st5⟩ := X3.sget hexec hown (wk W (.fieldLink "java/lang/String" 38 "java/lang/String" "COMPACT_STRINGS" "Z")) s1 (fun _ _ h => by rw [hh3]; exact h) (g := (mkF m 27 #[.val (.ref a), .val (.ref b), .val (.int (Int32.ofNat o)), .val (.int (Int32.ofNat len)), .val .null, .unset] [])) rfl (hb hbytes d27)
  have hh5 := q5.trans hh3
  have c6 : Steps p.tables e below (s₁.setTop (entryFrame m #[.ref a, .ref b, .int (Int32.ofNat o), .int (Int32.ofNat len), .null] 6)) (T5.setTop (mkF m 30 #[.val (.ref a), .val (.ref b), .val (.int (Int32.ofNat o)), .val (.int (Int32.ofNat len)), .val .null, .unset] [.int z])) := c4.trans (st5 _ (Steps.refl _))
  have c7 : Steps p.tables e below (s₁.setTop (entryFrame m #[.ref a, .ref b, .int (Int32.ofNat o), .int (Int32.ofNat len), .null] 6)) (T5.setTop (mkF m 36 #[.val (.ref a), .val (.ref b), .val (.int (Int32.ofNat o)), .val (.int (Int32.ofNat len)), .val .null, .unset] [.int (Int32.ofNat len), .int (Int32.ofNat o), .ref b])) := c6.trans (by
    refine XS.ifNo X5.here hexec rfl (hb hbytes d30) rfl (i0_eq_f hz) ?_
    refine XS.aloadN X5.here hexec rfl (hb hbytes d33) rfl rfl ?_
    refine XS.iloadN X5.here hexec rfl (hb hbytes d34) rfl ?_
    refine XS.iloadN X5.here hexec rfl (hb hbytes d35) rfl ?_
    exact Steps.refl _)
  obtain ⟨v8, T8, X8, E8, g8⟩ := X5.callS hexec (Cmp3.law l b A o len) hown (wks W (staticW "java/lang/String" 177 Cmp3.yN)) (wk W Cmp3.tab) (W := 0) (Nat.le_of_ble_eq_true rfl) (Nat.le_of_ble_eq_true rfl) (Nat.le_refl _) (by show 0 + len ≤ len; omega) (g := (mkF m 36 #[.val (.ref a), .val (.ref b), .val (.int (Int32.ofNat o)), .val (.int (Int32.ofNat len)), .val .null, .unset] [.int (Int32.ofNat len), .int (Int32.ofNat o), .ref b])) rfl (by rw [hml]; rfl) c7 (argsL := [.ref b, .int (Int32.ofNat o), .int (Int32.ofNat len)]) (rest := []) rfl rfl (by show 2 * 0 + 0 ≤ _; decide) (hb hbytes d36) (⟨rfl, hA.mv X5.warmed.alike hh5, l1, l2, hp⟩)
  obtain ⟨e8, z8⟩ := E8
  obtain ⟨rfl, N, n1, n2, n3, n4, n5, n6⟩ := NewArr.mv _ T5 s _ _ hh5.symm (Vm.Alike.refl _) rfl e8
  rw [hh5] at z8
  have hB1 := hB.keep X8.warmed.alike (n6 _ _ hB.1)
  have hne : s.heap.size ≠ a := (Nat.ne_of_lt (Array.getElem?_eq_some_iff.mp hB.1).1).symm
  have c9 : Steps p.tables e below (s₁.setTop (entryFrame m #[.ref a, .ref b, .int (Int32.ofNat o), .int (Int32.ofNat len), .null] 6)) (T8.setTop (mkF m 39 #[.val (.ref a), .val (.ref b), .val (.int (Int32.ofNat o)), .val (.int (Int32.ofNat len)), .val .null, .unset] [.ref s.heap.size])) := g8
  have c10 : Steps p.tables e below (s₁.setTop (entryFrame m #[.ref a, .ref b, .int (Int32.ofNat o), .int (Int32.ofNat len), .null] 6)) (T8.setTop (mkF m 45 #[.val (.ref a), .val (.ref b), .val (.int (Int32.ofNat o)), .val (.int (Int32.ofNat len)), .val .null, .val (.ref s.heap.size)] [.int (Int32.ofNat N.slots.size), .ref s.heap.size, .ref a])) := by
    have hc : Steps p.tables e below (s₁.setTop (entryFrame m #[.ref a, .ref b, .int (Int32.ofNat o), .int (Int32.ofNat len), .null] 6)) (T8.setTop (mkF m 45 #[.val (.ref a), .val (.ref b), .val (.int (Int32.ofNat o)), .val (.int (Int32.ofNat len)), .val .null, .val (.ref s.heap.size)] [.int (Int32.ofNat len), .ref s.heap.size, .ref a])) := c9.trans (by
      refine XS.astore X8.here hexec rfl (hb hbytes d39) rfl rfl rfl ?_
      refine XS.aloadN X8.here hexec rfl (hb hbytes d41) rfl rfl ?_
      refine XS.aload X8.here hexec rfl (hb hbytes d42) rfl rfl ?_
      refine XS.iloadN X8.here hexec rfl (hb hbytes d44) rfl ?_
      exact Steps.refl _)
    rw [n4]; exact hc
  obtain ⟨v11, T11, X11, E11, g11⟩ := X8.callS hexec (CodL.law l s.heap.size N) hown (wks W (staticW "java/lang/String" 47 CodL.yN)) (wk W CodL.tab) (W := 1) (Nat.le_of_ble_eq_true rfl) (Nat.le_of_ble_eq_true rfl) (Nat.le_refl _) (by show 0 + len + 0 ≤ len; omega) (g := (mkF m 45 #[.val (.ref a), .val (.ref b), .val (.int (Int32.ofNat o)), .val (.int (Int32.ofNat len)), .val .null, .val (.ref s.heap.size)] [.int (Int32.ofNat N.slots.size), .ref s.heap.size, .ref a])) rfl (by rw [hml]; rfl) c10 (argsL := [.ref s.heap.size, .int (Int32.ofNat N.slots.size)]) (rest := [.ref a]) rfl rfl (by show 2 * 0 + (1 + 0) ≤ _; decide) (hb hbytes d45) (⟨rfl, n1⟩)
  obtain ⟨rfl, q11⟩ := E11
  have hB11 := hB1.mv (X8.warmed.alike.symm.trans X11.warmed.alike) q11
  have c12 : Steps p.tables e below (s₁.setTop (entryFrame m #[.ref a, .ref b, .int (Int32.ofNat o), .int (Int32.ofNat len), .null] 6)) (T11.setTop (mkF m 48 #[.val (.ref a), .val (.ref b), .val (.int (Int32.ofNat o)), .val (.int (Int32.ofNat len)), .val .null, .val (.ref s.heap.size)] [.int 0, .ref a])) := g11
  obtain ⟨T13, X13, p13, bl13, sl13, st13⟩ := X11.finit hexec hown (wk W (.fieldLink "java/lang/String" 15 "java/lang/String" "coder" "B")) (Or.inr ⟨_, (wk W (.laysFinal "java/lang/String" "java/lang/String" "coder" "B"))⟩) (Or.inl ⟨rfl, hnm⟩) f2 (Or.inl rfl) hB11 (t := .byte) (by decide +kernel) rfl (g := (mkF m 48 #[.val (.ref a), .val (.ref b), .val (.int (Int32.ofNat o)), .val (.int (Int32.ofNat len)), .val .null, .val (.ref s.heap.size)] [.int 0, .ref a])) rfl (rest := []) rfl (hb hbytes d48)
  have c14 : Steps p.tables e below (s₁.setTop (entryFrame m #[.ref a, .ref b, .int (Int32.ofNat o), .int (Int32.ofNat len), .null] 6)) (T13.setTop (mkF m 54 #[.val (.ref a), .val (.ref b), .val (.int (Int32.ofNat o)), .val (.int (Int32.ofNat len)), .val .null, .val (.ref s.heap.size)] [.ref s.heap.size, .ref a])) := (c12.trans (st13 _ (Steps.refl _))).trans (by
    refine XS.aloadN X13.here hexec rfl (hb hbytes d51) rfl rfl ?_
    refine XS.aload X13.here hexec rfl (hb hbytes d52) rfl rfl ?_
    exact Steps.refl _)
  obtain ⟨T15, X15, p15, bl15, sl15, st15⟩ := X13.finit hexec hown (wk W (.fieldLink "java/lang/String" 9 "java/lang/String" "value" "[B")) (Or.inr ⟨_, (wk W (.laysFinal "java/lang/String" "java/lang/String" "value" "[B"))⟩) (Or.inl ⟨rfl, hnm⟩) f1 (Or.inl rfl) bl13 (t := (.array .byte)) (by decide +kernel) rfl (g := (mkF m 54 #[.val (.ref a), .val (.ref b), .val (.int (Int32.ofNat o)), .val (.int (Int32.ofNat len)), .val .null, .val (.ref s.heap.size)] [.ref s.heap.size, .ref a])) rfl (rest := []) rfl (hb hbytes d54)
  have c16 : Steps p.tables e below (s₁.setTop (entryFrame m #[.ref a, .ref b, .int (Int32.ofNat o), .int (Int32.ofNat len), .null] 6)) (T15.setTop (mkF m 57 #[.val (.ref a), .val (.ref b), .val (.int (Int32.ofNat o)), .val (.int (Int32.ofNat len)), .val .null, .val (.ref s.heap.size)] [])) := c14.trans (st15 _ (Steps.refl _))
  have ap := apart (Or.inr ⟨_, (wk W (.laysFinal "java/lang/String" "java/lang/String" "value" "[B"))⟩) (Or.inr ⟨_, (wk W (.laysFinal "java/lang/String" "java/lang/String" "coder" "B"))⟩) f1 f2 (t₁ := .array .byte) (t₂ := .byte) (by decide +kernel) (by decide +kernel) (by decide)
  have al := X8.warmed.alike.symm.trans X15.warmed.alike
  have n7 : T11.heap[s.heap.size]? = some N := by rw [q11]; exact n1.1
  exact ⟨T15, none, _, _, _, X15, by simp, rfl, by omega, (fun _ => rfl), ⟨rfl, _, N, bl15, ((Same.refl D _).set _ (by simp)).set _ (by simp), sl15, (Cell.slots_setSlot_ne _ ap).trans sl13, n1.keep al (p15.other hne (p13.other hne n7)), n2, by rw [al.findClass]; exact n3, n4, n5, fun y c h1 h2 => p15.other h1 (p13.other h1 (by rw [q11]; exact n6 y c h2)), by rw [p15.2.2, p13.2.2, q11]; exact z8⟩, fun fs hl => c16.trans (X15.returnOut hexec hret (hb hbytes d57) hl)⟩
end New4
namespace New1
def yN : MethodName := ⟨"java/lang/String", "<init>", "([C)V"⟩
abbrev yB : ByteArray := jdk_42_method_3_code
theorem d0 : decode yB 0 = .ok (.aload_n 0, 1) := by decide +kernel
theorem d1 : decode yB 1 = .ok (.aload_n 1, 1) := by decide +kernel
theorem d2 : decode yB 2 = .ok (.iconst 0, 1) := by decide +kernel
theorem d3 : decode yB 3 = .ok (.aload_n 1, 1) := by decide +kernel
theorem d4 : decode yB 4 = .ok (.arraylength, 1) := by decide +kernel
theorem d5 : decode yB 5 = .ok (.aconst_null, 1) := by decide +kernel
theorem d6 : decode yB 6 = .ok (.invokespecial 27, 3) := by decide +kernel
theorem d9 : decode yB 9 = .ok (.return_, 1) := by decide +kernel
def site : List Cond := [New4.tab] ++ initW "java/lang/String" 27 New4.yN
def tab : Cond := tabOf yN yB 2 none site
def P (a : Addr) (D : Cell) (fV fC : Field) (b : Addr) (A : Cell) (z : Int32) (args : Array Value) (s : State) : Prop := args = #[.ref a, .ref b] ∧ Blank "java/lang/String" a D s ∧ Found "java/lang/String" "value" "[B" fV s ∧ Found "java/lang/String" "coder" "B" fC s ∧ Ch b A s ∧ StaticIs s "java/lang/String" "COMPACT_STRINGS" "Z" (.int z) ∧ ¬ z = 0 ∧ 0 < A.slots.size ∧ A.slots.size ≤ 536870912 ∧ ∀ i, i < A.slots.size → ¬ 255 < cv A i
def E (a : Addr) (D : Cell) (fV fC : Field) (A : Cell) (r : Option Value) (s u : State) : Prop := Got a D fV fC A 0 A.slots.size r s u
/-- new String(chars), not empty, no char above 255: a Latin-1 String of their low bytes -/
theorem law (l : Launch) (a : Addr) (D : Cell) (fV fC : Field) (b : Addr) (A : Cell) (z : Int32) : Law l yN 2 1 3 52 yB 2 none site (P a D fV fC b A z) (E a D fV fC A) [⟨a, fC.slot⟩, ⟨a, fV.slot⟩] 1 A.slots.size := by
  refine Law.of_walk (plainFor_of_name (by decide +kernel)) (by decide +kernel) (by decide +kernel) (by decide) (fun _ _ h => by rw [h.1]; rfl) (fun _ U U' hal hh h => ⟨h.1, h.2.1.mv hal hh, h.2.2.1.al hal, h.2.2.2.1.al hal, h.2.2.2.2.1.mv hal hh, h.2.2.2.2.2.1.there hal hh, h.2.2.2.2.2.2⟩) (fun r U U' V V' h1 hal h2 h => Got.mv r U U' V V' h1 hal h2 h) ?_
  intro p e s m args below meth c s₁ X0 hexec hbytes hml hret hlk hnm hown hh0 W hP
  obtain ⟨rfl, hB, f1, f2, hA, s1, hz, l0, l2, hp⟩ := hP
  have c1 : Steps p.tables e below (s₁.setTop (entryFrame m #[.ref a, .ref b] 2)) (s₁.setTop (mkF m 0 #[.val (.ref a), .val (.ref b)] [])) := entry rfl
  have c2 : Steps p.tables e below (s₁.setTop (entryFrame m #[.ref a, .ref b] 2)) (s₁.setTop (mkF m 6 #[.val (.ref a), .val (.ref b)] [.null, .int (Int32.ofNat A.slots.size), .int 0, .ref b, .ref a])) := c1.trans (by
    refine XS.aloadN X0.here hexec rfl (hb hbytes d0) rfl rfl ?_
    refine XS.aloadN X0.here hexec rfl (hb hbytes d1) rfl rfl ?_
    refine iconstV X0.here hexec rfl 0 (hb hbytes d2) (by decide) ?_
    refine XS.aloadN X0.here hexec rfl (hb hbytes d3) rfl rfl ?_
    refine X0.alen hexec (hA.1.mv X0.warmed.alike hh0) rfl rfl (hb hbytes d4) ?_
    refine XS.aconstNull X0.here hexec rfl (hb hbytes d5) ?_
    exact Steps.refl _)
  obtain ⟨v3, T3, X3, E3, g3⟩ := X0.callN hexec (New4.law l a D fV fC b A z 0 A.slots.size) rfl hown (wks W (initW "java/lang/String" 27 New4.yN)) (W New4.tab (by simp only [site, List.mem_cons, List.mem_append, true_or, or_true])) (W := 0) (Nat.le_of_ble_eq_true rfl) (Nat.le_of_ble_eq_true rfl) (Nat.le_refl _) (by show 0 + A.slots.size ≤ A.slots.size; omega) (g := (mkF m 6 #[.val (.ref a), .val (.ref b)] [.null, .int (Int32.ofNat A.slots.size), .int (Int32.ofNat 0), .ref b, .ref a])) rfl (by rw [hml]; rfl) c2 (argsL := [.ref b, .int (Int32.ofNat 0), .int (Int32.ofNat A.slots.size), .null]) (rest := []) rfl rfl (by show 2 * 0 + 0 ≤ _; decide) (hb hbytes d6) (⟨rfl, hB.mv X0.warmed.alike hh0, f1.al X0.warmed.alike, f2.al X0.warmed.alike, hA.mv X0.warmed.alike hh0, s1.there X0.warmed.alike hh0, hz, l0, by omega, l2, fun i hi => by rw [Nat.zero_add]; exact hp i hi⟩)
  have e0 := Got.mv _ s₁ s _ _ hh0.symm (Vm.Alike.refl _) rfl E3
  obtain rfl := e0.1
  have c4 : Steps p.tables e below (s₁.setTop (entryFrame m #[.ref a, .ref b] 2)) (T3.setTop (mkF m 9 #[.val (.ref a), .val (.ref b)] [])) := g3
  exact ⟨T3, none, _, _, _, X3, by simp, rfl, by omega, (fun _ => rfl), e0, fun fs hl => c4.trans (X3.returnOut hexec hret (hb hbytes d9) hl)⟩
theorem pays {l : Launch} {R : Room} {p : Program} {e : Env} {below : List Frame} {s : State} {sargs : Array Value} {len W : Nat} (a : Addr) (D : Cell) (fV fC : Field) (b : Addr) (A : Cell) (z : Int32) (htab : tab.before sargs s = true) (hfr : 4 ≤ R.frames) (hlo : W + 65 ≤ R.locals) :
    Back l R p e below s sargs yN len W (fun A₁ a₁ => A₁.cells + 1 ≤ R.cells ∧ A₁.slots + A.slots.size ≤ R.slots ∧ P a D fV fC b A z a₁ A₁.U) (fun A₁ _ v₁ B₁ => E a D fV fC A v₁ A₁.U B₁.U ∧ B₁.locs = A₁.locs ++ [⟨a, fC.slot⟩, ⟨a, fV.slot⟩] ∧ B₁.cells = A₁.cells + 1 ∧ B₁.slots = A₁.slots + A.slots.size) :=
  (law l a D fV fC b A z).pays htab hfr (by omega)
end New1
end StrChars
namespace StrChars.Road
open Jvm Sem ClassFile Op Lib Jvm.Stand Jvm.Free Jvm.Free.XT
open Jvm.Lib.Cold (StaticIs)
abbrev ST : String := "java/lang/String"
/-- every table word that New1's law asks, flat -/
abbrev words : List Jvm.Cond := [.code New1.yN New1.yB 2 none, .initialized ST, .methodLink ST 27 New4.yN, .instanceMethod New4.yN,
  .code New4.yN New4.yB 6 none, .fieldLink ST 38 ST "COMPACT_STRINGS" "Z", .laysFinal ST ST "value" "[B", .fieldLink ST 9 ST "value" "[B", .laysFinal ST ST "coder" "B", .fieldLink ST 15 ST "coder" "B",
  .methodLink ST 1 Lib.objectInit, .instanceMethod Lib.objectInit, .code Lib.objectInit ⟨#[0xb1]⟩ 1 none, .methodLink ST 177 Cmp3.yN, .static Cmp3.yN, .methodLink ST 47 CodL.yN, .static CodL.yN,
  .code Cmp3.yN Cmp3.yB 6 (some (.array .byte)), .initialized U16, .arrayClass .byte, .methodLink U16 115 Cmp5.yN, .static Cmp5.yN, .code Cmp5.yN Cmp5.yB 7 (some .int), .code CodL.yN CodL.yB 2 (some .byte)]
theorem tab_of {a : Array Value} {s : State} (h : ∀ w ∈ words, w.before a s = true) : New1.tab.before a s = true := by
  have h5 : Cmp5.tab.before a s = true := unparts (wk h (.code Cmp5.yN Cmp5.yB 7 (some .int))) (wks h (.initialized Cmp5.yN.cls :: Cmp5.site))
  have hc : CodL.tab.before a s = true := unparts (wk h (.code CodL.yN CodL.yB 2 (some .byte))) (wks h (.initialized CodL.yN.cls :: CodL.site))
  have q5 : ∀ w ∈ Cmp5.tab :: words, w.before a s = true := fun w hw => (List.mem_cons.mp hw).elim (fun e => e ▸ h5) (h w)
  have h3 : Cmp3.tab.before a s = true := unparts (wk q5 (.code Cmp3.yN Cmp3.yB 6 (some (.array .byte)))) (wks q5 (.initialized Cmp3.yN.cls :: Cmp3.site))
  have q3 : ∀ w ∈ Cmp3.tab :: CodL.tab :: words, w.before a s = true := fun w hw => (List.mem_cons.mp hw).elim (fun e => e ▸ h3) fun hw => (List.mem_cons.mp hw).elim (fun e => e ▸ hc) (h w)
  have h4 : New4.tab.before a s = true := unparts (wk q3 (.code New4.yN New4.yB 6 none)) (wks q3 (.initialized New4.yN.cls :: New4.site))
  have q4 : ∀ w ∈ New4.tab :: words, w.before a s = true := fun w hw => (List.mem_cons.mp hw).elim (fun e => e ▸ h4) (h w)
  exact unparts (wk q4 (.code New1.yN New1.yB 2 none)) (wks q4 (.initialized New1.yN.cls :: New1.site))
/-- the words ride from the start Z to the walk's own state -/
theorem moved {Z s : State} {a0 args : Array Value} (hZ : Z.Warmed39 s.vm) (hw : ∀ d ∈ words, d.before a0 Z = true) : ∀ d ∈ words, d.before args s = true := fun d hd => by
  have q := hw d hd
  have t : ∀ d ∈ words, d = .arrayClass .byte ∨ (d.onTables && d.keepsFace) = true := by decide +kernel
  rcases t d hd with rfl | t
  · exact RoadKit.mvA hZ q
  · exact RoadKit.mv hZ q t
/-- WHAT COMES BACK, over the tables of the start Z: h the heap at the call, h' behind it -/
def Q (Z : State) (x : Addr) (A : Cell) (h : Heap) (v : Option Value) (h' : Heap) (L : List Loc) : Prop := v = none ∧ (∀ y ∈ L, y.base = x) ∧ RoadKit.Keep h h' [x] ∧ h'.size = h.size + 1 ∧ RoadKit.Exa Z h' x ST ∧ RoadKit.Fld Z h' x ST "value" "[B" (.ref h.size) ∧ RoadKit.Fld Z h' x ST "coder" "B" (.int 0) ∧
  (∃ V : Cell, RoadKit.Arr Z h' h.size V .byte ∧ V.vm = .none ∧ Z.vm.findClass "[B" = some V.cls ∧ V.slots.size = A.slots.size ∧ ∀ j, j < A.slots.size → V.slots[j]? = some (.int (lo8 (cv A j)))) ∧
  ∀ (O n d : String) (w : Value), RoadKit.Fld Z h x O n d w → RoadKit.slotOf Z O n d ≠ RoadKit.slotOf Z ST "value" "[B" → RoadKit.slotOf Z O n d ≠ RoadKit.slotOf Z ST "coder" "B" → RoadKit.Fld Z h' x O n d w
/-- **new String(chars) AT A CALL, IN THE ROAD'S FORM**: for specialBack behind newO: x the fresh String, b the char[] with the cell A -/
theorem back {p : Program} {l : Launch} {e : Env} {R : Room} {s : State} {args : Array Value} {below : List Frame} {len W : Nat} {Z : State} {a0 : Array Value} {h : Heap} (hZ : Z.Warmed39 s.vm) (hw : ∀ d ∈ words, d.before a0 Z = true) {kI : Nat} (wi : (Jvm.Cond.instantiable ST kI).before a0 Z = true)
    {x b : Addr} {A : Cell} {z : Int32} {v0 c0 : Value} (E : RoadKit.Exa Z h x ST) (V : RoadKit.Fld Z h x ST "value" "[B" v0) (C : RoadKit.Fld Z h x ST "coder" "B" c0) (K : RoadKit.Arr Z h b A .char) (hty : Typed .char A) (S : RoadKit.Sta Z h ST "COMPACT_STRINGS" "Z" (.int z)) (hz : ¬ z = 0)
    (l0 : 0 < A.slots.size) (l2 : A.slots.size ≤ 536870912) (hp : ∀ i, i < A.slots.size → ¬ 255 < cv A i) (hfr : 4 ≤ R.frames) (hlo : W + 65 ≤ R.locals) :
    Back l R p e below s args New1.yN len W (fun P a => a = #[.ref x, .ref b] ∧ P.U.heap = h ∧ P.cells + 1 ≤ R.cells ∧ P.slots + A.slots.size ≤ R.slots)
      (fun P _ v B => ∃ L, Q Z x A h v B.U.heap L ∧ B.locs = P.locs ++ L ∧ B.cells = P.cells + 1 ∧ B.slots = P.slots + A.slots.size) := by
  intro m meth c P g ig mk a X hg hsize hdg hW hn hp'
  obtain ⟨rfl, rfl, r1, r2⟩ := hp'
  have al : Z.vm.Alike P.U.vm := hZ.alike.trans X.warmed.alike
  obtain ⟨D, cfV, kV, iV, fV, hD, gV, stV, knV, obV, asV, slV⟩ := id V
  obtain ⟨D', cfC, kC, iC, fC, hD', gC, stC, -, -, asC, slC⟩ := id C
  cases hD.symm.trans hD'
  obtain ⟨D2, kD, e1, e2, e3, e4, e5⟩ := id E
  cases hD.symm.trans e1
  obtain ⟨c2, k2, i1, i2, i3, -⟩ := Cond.instantiable_spec wi
  cases e2.symm.trans i1
  cases e3.symm.trans i2
  obtain ⟨kU, u1, u2⟩ := al.2.2 _ _ e3
  have hB : Blank ST x D P.U := ⟨hD, ⟨knV, fun q hq => by rw [hq] at obV; cases obV⟩, by rw [al.findClass]; exact e2, kU, u1, by rw [u2]; exact i3, by rw [u2]; exact e5 i3⟩
  have F1 : Found ST "value" "[B" fV P.U := ⟨SBG.found_only al ⟨cfV, kV, iV, gV⟩, stV⟩
  have F2 : Found ST "coder" "B" fC P.U := ⟨SBG.found_only al ⟨cfC, kC, iC, gC⟩, stC⟩
  have hA : Ch b A P.U := ⟨⟨K.1, State.isArrayOf_alike al K.2.1, K.2.2, by omega⟩, hty⟩
  have hS : StaticIs P.U ST "COMPACT_STRINGS" "Z" (.int z) := by
    obtain ⟨cfS, iS, kS, fS, st, cS, t1, t2, t3, t4, t5, t6, t7⟩ := S
    exact StaticIs.there (s := { Z with heap := P.U.heap }) ⟨cfS, iS, kS, fS, st, cS, t1, t2, t3, t4, t5, (fun q => by rw [q] at t6; cases t6), t7⟩ al rfl
  obtain ⟨v, B, X', ⟨⟨hv, E', V', q1, q2, q3, q4, q5, q6, q7, q8, q9, q10, q11⟩, hl, hc, hs⟩, st⟩ := New1.pays x D fV fC b A z (tab_of (moved hZ hw)) hfr hlo m meth c P g ig mk _ X hg hsize hdg hW hn ⟨r1, r2, rfl, hB, F1, F2, hA, hS, hz, l0, l2, hp⟩
  have al' : Z.vm.Alike B.U.vm := hZ.alike.trans X'.warmed.alike
  have hsz : E'.slots.size = D.slots.size := by
    obtain ⟨-, -, -, kB, w1, w2, w3⟩ := q1
    obtain ⟨kB', y1, y2⟩ := al'.2.2 _ _ e3
    rw [q2.2.1] at w1
    cases w1.symm.trans y1
    rw [w3, e5 i3, y2]
  refine ⟨v, B, X', ⟨_, ⟨hv, ?_, ⟨by omega, fun y cy hy hn' => q10 y cy (by simpa using hn') hy, fun y cy hy => ?_⟩, q11, ⟨E', _, q1.1, by rw [q2.2.1]; exact e2, by rw [q2.2.1]; exact e3, by rw [q2.1]; exact obV, fun _ => by rw [hsz]; exact e5 i3⟩,
    ⟨E', cfV, kV, iV, fV, q1.1, gV, stV, by rw [q2.1]; exact knV, by rw [q2.1]; exact obV, by rw [q2.2.1]; exact asV, q3⟩, ⟨E', cfC, kC, iC, fC, q1.1, gC, stC, by rw [q2.1]; exact knV, by rw [q2.1]; exact obV, by rw [q2.2.1]; exact asC, q4⟩,
    ⟨V', ⟨q5.1, State.isArrayOf_alike al'.symm q5.2.1, q5.2.2.1⟩, q6, by rw [← al'.findClass]; exact q7, q8, fun j hj => by have := q9 j hj; rwa [Nat.zero_add] at this⟩, fun O n d w F n1 n2 => ?_⟩, hl, hc, hs⟩, st⟩
  · intro y hy
    simp only [List.mem_cons, List.not_mem_nil, or_false] at hy
    rcases hy with rfl | rfl <;> rfl
  · by_cases q : y = x
    · subst q
      cases hD.symm.trans hy
      exact ⟨E', q1.1, q2.2.1, q2.1, hsz⟩
    · exact ⟨cy, q10 y cy q hy, rfl, rfl, rfl⟩
  · obtain ⟨D3, cf, k, i, f, g1, g2, g3, g4, g5, g6, g7⟩ := F
    cases hD.symm.trans g1
    simp only [RoadKit.slotOf, g2, gV, gC, Option.map_some, Option.getD_some] at n1 n2
    exact ⟨E', cf, k, i, f, q1.1, g2, g3, by rw [q2.1]; exact g4, by rw [q2.1]; exact g5, by rw [q2.2.1]; exact g6, by rw [q2.2.2 f.slot (by simp [n1, n2])]; exact g7⟩
end StrChars.Road
namespace StrChars.Road
open Jvm Sem ClassFile Op Lib Jvm.Stand Jvm.Free Jvm.Free.XT
/-- WHAT COMES BACK, the byte[] as a list of values -/
def QA (Z : State) (x : Addr) (zn : Int32) (cs : List Int32) (h : Heap) (v : Option Value) (h' : Heap) (L : List Loc) : Prop := v = none ∧ (∀ y ∈ L, y.base = x) ∧ RoadKit.Keep h h' [x] ∧ h'.size = h.size + 1 ∧ RoadKit.Exa Z h' x ST ∧ RoadKit.Fld Z h' x ST "value" "[B" (.ref h.size) ∧ RoadKit.Fld Z h' x ST "coder" "B" (.int 0) ∧
  (∃ kb, Z.vm.findClass "[B" = some kb ∧ RoadKit.Arv Z h' h.size kb .byte zn (cs.map fun c => .int (lo8 c)) (.int 0)) ∧
  ∀ (O n d : String) (w : Value), RoadKit.Fld Z h x O n d w → RoadKit.slotOf Z O n d ≠ RoadKit.slotOf Z ST "value" "[B" → RoadKit.slotOf Z O n d ≠ RoadKit.slotOf Z ST "coder" "B" → RoadKit.Fld Z h' x O n d w
/-- **new String(chars) AT A CALL, THE ARRAYS AS LISTS**: the char[] at b holds cs, not empty, no char above 255 -/
theorem backArv {p : Program} {l : Launch} {e : Env} {R : Room} {s : State} {args : Array Value} {below : List Frame} {len W : Nat} {Z : State} {a0 : Array Value} {h : Heap} (hZ : Z.Warmed39 s.vm) (hw : ∀ d ∈ words, d.before a0 Z = true) {kI : Nat} (wi : (Jvm.Cond.instantiable ST kI).before a0 Z = true)
    {x b : Addr} {k : ClassId} {zn z : Int32} {cs : List Int32} {dv v0 c0 : Value} (E : RoadKit.Exa Z h x ST) (V : RoadKit.Fld Z h x ST "value" "[B" v0) (C : RoadKit.Fld Z h x ST "coder" "B" c0) (K : RoadKit.Arv Z h b k .char zn (cs.map Value.int) dv) (S : RoadKit.Sta Z h ST "COMPACT_STRINGS" "Z" (.int z)) (hz : ¬ z = 0)
    (hlen : zn.toNatClampNeg = cs.length) (h0 : 0 < cs.length) (hbig : cs.length ≤ 536870912) (hall : ∀ c ∈ cs, ¬ 255 < c) (hfr : 4 ≤ R.frames) (hlo : W + 65 ≤ R.locals) :
    Back l R p e below s args New1.yN len W (fun P a => a = #[.ref x, .ref b] ∧ P.U.heap = h ∧ P.cells + 1 ≤ R.cells ∧ P.slots + cs.length ≤ R.slots)
      (fun P _ v B => ∃ L, QA Z x zn cs h v B.U.heap L ∧ B.locs = P.locs ++ L ∧ B.cells = P.cells + 1 ∧ B.slots = P.slots + cs.length) := by
  obtain ⟨A, K1, K2, K3, K4, K5, K6⟩ := K
  have e : A.slots.size = cs.length := K3.trans hlen
  have hat : ∀ (i : Nat) (hi : i < cs.length), A.slots[i]? = some (.int cs[i]) := fun i hi => by rw [K5 i (by omega)]; simp [List.getD_eq_getElem?_getD, hi]
  have hcv : ∀ (i : Nat) (hi : i < cs.length), cv A i = cs[i] := fun i hi => by unfold cv; rw [hat i hi]
  have hty : Typed .char A := fun i v hv => by
    have hi : i < A.slots.size := (Array.getElem?_eq_some_iff.mp hv).1
    have q := K5 i hi
    rw [hv] at q
    rw [Option.some.inj q]
    exact K6 i hi
  refine Back.mono (back hZ hw wi E V C K1 hty S hz (by omega) (by omega) (fun i hi => by rw [hcv i (by omega)]; exact hall _ (List.getElem_mem _)) hfr hlo) (fun P a hp => ⟨hp.1, hp.2.1, hp.2.2.1, by rw [e]; exact hp.2.2.2⟩) (fun P a v B hp hq => ?_)
  obtain ⟨L, ⟨q1, q2, q3, q4, q5, q6, q7, ⟨V', v1, v2, v3, v4, v5⟩, q9⟩, hl, hc, hs⟩ := hq
  refine ⟨L, ⟨q1, q2, q3, q4, q5, q6, q7, ⟨V'.cls, v3, V', v1, rfl, by rw [v4, e, hlen], K4, fun i hi => ?_, fun i hi => ?_⟩, q9⟩, hl, hc, by rw [hs, e]⟩
  · have hi' : i < cs.length := by omega
    rw [v5 i (by omega), hcv i hi']; simp [List.getD_eq_getElem?_getD, hi']
  · have hi' : i < cs.length := by omega
    simp only [List.getD_eq_getElem?_getD, List.getElem?_map, List.getElem?_eq_getElem hi', Option.map_some, Option.getD_some]
    exact fits_lo8 _
end StrChars.Road
namespace StrChars.Road
open Jvm Sem ClassFile Op Lib Jvm.Stand Jvm.Free Jvm.Free.XT
/-- WHAT COMES BACK, in the writer's own shape -/
def QV (Z : State) (x : Addr) (N : Int32) (bs : List Int32) (h : Heap) (n0 : Nat) (v : Option Value) (h' : Heap) (L : List Loc) : Prop := v = none ∧ RoadKit.Fr n0 L ∧ RoadKit.Keep h h' [x] ∧ RoadKit.Exa Z h' x ST ∧ RoadKit.Fld Z h' x ST "coder" "B" (.int 0) ∧
  ∃ (t : Addr) (kb : ClassId), n0 ≤ t ∧ h.size ≤ t ∧ ¬ t = x ∧ RoadKit.Fld Z h' x ST "value" "[B" (.ref t) ∧ RoadKit.Arv Z h' t kb .byte N (bs.map Value.int) (.int 0)
/-- **new String(chars) AT A CALL, FOR THE WRITER**: a char[] of n known ints, each 0 to 255 -/
theorem backV {p : Program} {l : Launch} {e : Env} {R : Room} {s : State} {args : Array Value} {below : List Frame} {len W : Nat} {Z : State} {a0 : Array Value} {h : Heap} (hZ : Z.Warmed39 s.vm) (hw : ∀ d ∈ words, d.before a0 Z = true) {kI : Nat} (wi : (Jvm.Cond.instantiable ST kI).before a0 Z = true)
    {x b : Addr} {kC : ClassId} {cs bs : List Int32} {d v0 c0 : Value} {z N : Int32} {n n0 : Nat} (hx0 : n0 ≤ x) (hh0 : n0 ≤ h.size) (E : RoadKit.Exa Z h x ST) (V : RoadKit.Fld Z h x ST "value" "[B" v0) (C : RoadKit.Fld Z h x ST "coder" "B" c0) (K : RoadKit.Arv Z h b kC .char N (cs.map Value.int) d) (S : RoadKit.Sta Z h ST "COMPACT_STRINGS" "Z" (.int z)) (hz : ¬ z = 0)
    (hn : cs.length = n) (hN : N = Int32.ofNat n) (l0 : 0 < n) (l2 : n ≤ 4000) (hp : ∀ c ∈ cs, ¬ c < 0 ∧ ¬ (255 : Int32) < c) (hb : bs = cs.map (fun c => c.toInt8.toInt32)) (hfr : 4 ≤ R.frames) (hlo : W + 65 ≤ R.locals) :
    Back l R p e below s args (⟨"java/lang/String", "<init>", "([C)V"⟩ : MethodName) len W (fun P a => a = #[.ref x, .ref b] ∧ P.U.heap = h ∧ P.cells + 1 ≤ R.cells ∧ P.slots + n ≤ R.slots)
      (fun P _ v B => ∃ L, QV Z x N bs h n0 v B.U.heap L ∧ B.locs = P.locs ++ L ∧ B.cells = P.cells + 1 ∧ B.slots = P.slots + n) := by
  subst hn hN hb
  refine Back.mono (backArv hZ hw wi E V C K S hz (n32 (by omega)) l0 (by omega) (fun c hc => (hp c hc).2) hfr hlo) (fun P a hp => hp) (fun P a v B hp hq => ?_)
  obtain ⟨L, ⟨q1, q2, q3, q4, q5, q6, q7, ⟨kb, v1, v2⟩, q9⟩, hl, hc, hs⟩ := hq
  exact ⟨L, ⟨q1, fun y hy => by rw [q2 y hy]; exact hx0, q3, q5, q7, h.size, kb, hh0, Nat.le_refl _, Nat.ne_of_gt E.lt, q6, by rw [List.map_map]; exact v2⟩, hl, hc, hs⟩
end StrChars.Road
namespace StrChars
open Jvm Sem ClassFile Op Lib Jvm.Stand Jvm.Free.XT Jvm.Free.ALB Jvm.Free.JM Jvm.Free
open Jvm.Lib.Cold (StaticIs)
def hi8 (x : Int32) : Int32 := lo8 (x >>> ((8 : Int32) &&& 31))
end StrChars
namespace StrChars.Road
open Jvm Sem ClassFile Op Lib Jvm.Stand Jvm.Free Jvm.Free.XT
open Jvm.Lib.Cold (StaticIs)
/-- the bytes of the chars cs, low before high -/
def wideBytes : List Int32 → List Value
  | [] => []
  | c :: cs => .int (lo8 c) :: .int (hi8 c) :: wideBytes cs
/-- an array of N2 bytes vs codes the chars cs by the coder cd -/
def CodA (cs : List Int32) (cd N2 : Int32) (vs : List Value) : Prop := (cd = 0 ∧ N2 = Int32.ofNat cs.length ∧ vs = (cs.map fun c => Value.int (lo8 c)) ∧ ∀ c ∈ cs, ¬ 255 < c) ∨ (cd = 1 ∧ N2 = Int32.ofNat (2 * cs.length) ∧ vs = wideBytes cs ∧ ∃ c ∈ cs, 255 < c)
end StrChars.Road
namespace StrChars.Road
open Jvm Sem ClassFile Op Lib Jvm.Stand Jvm.Free Jvm.Free.XT
open Jvm.Lib.Cold (StaticIs)
/-- what backV says of its String, as the contracts of this text ask it: cs's low bytes, coder 0 -/
theorem codOf {cs : List Int32} {n : Nat} (hn : cs.length = n) (hb : ∀ c ∈ cs, ¬ 255 < c) : CodA cs 0 (Int32.ofNat n) ((cs.map lo8).map Value.int) := Or.inl ⟨rfl, by rw [hn], by simp [List.map_map, Function.comp_def], hb⟩
end StrChars.Road
end Jvm.Pilot.@@N@@

namespace Jvm.Pilot.@@N@@
open Jvm Jvm.ClassFile Sem Op Lib Jvm.Free Jvm.Stand Jvm.LawKit Jvm.RoadKit Bundle Jvm.Pilot.@@N@@.Jvm.D
section OwnKit
variable {p : Program} {l : Launch} {e : Env} {R : Room} {s : State} {m : MethodId} {args : Array Value} {below : List Frame} {meth : Method} {c : Code} {T : State} {locs : List Loc} {cells slots : Nat}
def own_Go (p : Program) (e : Env) (below : List Frame) (P : Outcome → State → Prop) (U : State) : Prop := ∃ s₂ o, Steps p.tables e below U s₂ ∧ s₂.status = .running ∧ Ended s₂ below o ∧ P o s₂
abbrev own_Post (s : State) (Q : Option Value → Heap → List Loc → Prop) (K N : Nat) : Outcome → State → Prop := fun o U => ∃ v L, o = .returned v ∧ Q v U.heap L ∧ FrameEnd s o U L K N
theorem own_to {P : Outcome → State → Prop} {U V : State} (k : own_Go p e below P V) (h : ∀ t, Steps p.tables e below V t → Steps p.tables e below U t) : own_Go p e below P U := by
  obtain ⟨s₂, o, a, r⟩ := k
  exact ⟨s₂, o, h _ a, r⟩
theorem own_start {U : State} {K N : Nat} (Q : Option Value → Heap → List Loc → Prop) (k : own_Go p e below (own_Post s Q K N) U) : ∃ s₂ o, Steps p.tables e below U s₂ ∧ s₂.status = .running ∧ Ended s₂ below o ∧ ∃ v L, o = .returned v ∧ Q v s₂.heap L ∧ FrameEnd s o s₂ L K N := k
theorem own_irem {tb : Tables} [Ours tb] {e : Env} {below : List Frame} {T target : State} {m : MethodId} {c : Code} {g : JFrame} (h : At T m c below) (hx : tb.exec = Jvm.exec) (hg : g.method = m) {x y : Int32} {rest : List Value} (hd : decode c.code g.pc = .ok (.irem, 1)) (hs : g.stack = .int y :: .int x :: rest) (hy : y ≠ 0)
    (hr : Steps tb e below (T.setTop { g with pc := g.pc + 1, stack := .int (x % y) :: rest }) target) : Steps tb e below (T.setTop g) target := by
  refine XS.irem h hx hg hd hs hy ?_
  have q : x - x / y * y = x % y := Jvm.irem_eq_mod x y
  rw [q]; exact hr
theorem own_lrem {tb : Tables} [Ours tb] {e : Env} {below : List Frame} {T target : State} {m : MethodId} {c : Code} {g : JFrame} (h : At T m c below) (hx : tb.exec = Jvm.exec) (hg : g.method = m) {x y : Int64} {rest : List Value} (hd : decode c.code g.pc = .ok (.lrem, 1)) (hs : g.stack = .long y :: .long x :: rest) (hy : y ≠ 0)
    (hr : Steps tb e below (T.setTop { g with pc := g.pc + 1, stack := .long (x % y) :: rest }) target) : Steps tb e below (T.setTop g) target := by
  refine Jvm.Free.XT.lrem h hx hg hd hs hy ?_
  have q : x - x / y * y = x % y := Jvm.RoadKit.lrem_mod x y
  rw [q]; exact hr
section Out
variable {Q : Option Value → Heap → List Loc → Prop} {K N : Nat}
theorem own_out (X : Stand p l e R s m args below meth c T locs cells slots) {v : Option Value} (hv : meth.sig.returnType = none → v = none) (hlk : meth.locks = false) {g : JFrame}
    (st : ∀ fs, (∀ (f : JFrame) (acts : List Action), f.method = m → f.locked = none → f.entered = [] → (doReturn e (T.setTop f) acts v).1 = T.setFrames fs) → Steps p.tables e below (T.setTop g) (T.setFrames fs)) (hq : Q v T.heap locs) (hk : cells ≤ K) (hn : slots ≤ N) : own_Go p e below (own_Post s Q K N) (T.setTop g) := by
  obtain ⟨fs, hr, hrun, hended, hW, hsame⟩ := X.leave (v := v) hv hlk
  exact ⟨_, _, st fs hr, hrun, hended, v, locs, rfl, hq, ⟨_, rfl⟩, hW, hsame.mono hk hn⟩
theorem own_retN (X : Stand p l e R s m args below meth c T locs cells slots) (hx : p.tables.exec = Jvm.exec) {pc : Nat} {Ls : Array Slot} {z w : Int32} {t : FieldType} {rest : List Value} (hret : meth.sig.returnType = some t) (ht : t = .boolean ∨ t = .byte ∨ t = .char ∨ t = .short) (hn' : nar t z = w) (hlk : meth.locks = false)
    (hd : decode c.code pc = .ok (.ireturn, 1)) (hq : Q (some (.int w)) T.heap locs) (hk : cells ≤ K) (hn : slots ≤ N) : own_Go p e below (own_Post s Q K N) (T.setTop (mkF m pc Ls (.int z :: rest))) := by
  subst hn'
  exact own_out X (fun h => by rw [hret] at h; cases h) hlk (fun fs hr => retN X hx hret ht hd hr) hq hk hn
theorem own_retI (X : Stand p l e R s m args below meth c T locs cells slots) (hx : p.tables.exec = Jvm.exec) {pc : Nat} {Ls : Array Slot} {z : Int32} {rest : List Value} (hret : meth.sig.returnType = some .int) (hlk : meth.locks = false)
    (hd : decode c.code pc = .ok (.ireturn, 1)) (hq : Q (some (.int z)) T.heap locs) (hk : cells ≤ K) (hn : slots ≤ N) : own_Go p e below (own_Post s Q K N) (T.setTop (mkF m pc Ls (.int z :: rest))) :=
  own_out X (fun h => by rw [hret] at h; cases h) hlk (fun fs hr => retOut X hx hret rfl (Or.inl ⟨rfl, Or.inl rfl, _, rfl⟩) hd hr) hq hk hn
theorem own_retJ (X : Stand p l e R s m args below meth c T locs cells slots) (hx : p.tables.exec = Jvm.exec) {pc : Nat} {Ls : Array Slot} {z : Int64} {rest : List Value} (hret : meth.sig.returnType = some .long) (hlk : meth.locks = false)
    (hd : decode c.code pc = .ok (.lreturn, 1)) (hq : Q (some (.long z)) T.heap locs) (hk : cells ≤ K) (hn : slots ≤ N) : own_Go p e below (own_Post s Q K N) (T.setTop (mkF m pc Ls (.long z :: rest))) :=
  own_out X (fun h => by rw [hret] at h; cases h) hlk (fun fs hr => retOut X hx hret rfl (Or.inr (Or.inl ⟨rfl, rfl, _, rfl⟩)) hd hr) hq hk hn
theorem own_retD (X : Stand p l e R s m args below meth c T locs cells slots) (hx : p.tables.exec = Jvm.exec) {pc : Nat} {Ls : Array Slot} {z : UInt64} {rest : List Value} (hret : meth.sig.returnType = some .double) (hlk : meth.locks = false)
    (hd : decode c.code pc = .ok (.dreturn, 1)) (hq : Q (some (.double z)) T.heap locs) (hk : cells ≤ K) (hn : slots ≤ N) : own_Go p e below (own_Post s Q K N) (T.setTop (mkF m pc Ls (.double z :: rest))) :=
  own_out X (fun h => by rw [hret] at h; cases h) hlk (fun fs hr => retOut X hx hret rfl (Or.inr (Or.inr (Or.inl ⟨rfl, rfl, _, rfl⟩))) hd hr) hq hk hn
theorem own_retR (X : Stand p l e R s m args below meth c T locs cells slots) (hx : p.tables.exec = Jvm.exec) {pc : Nat} {Ls : Array Slot} {w : Value} {t : FieldType} {rest : List Value} (hret : meth.sig.returnType = some t) (ht : t.isReference = true) (hw : w.isRef = true) (hlk : meth.locks = false)
    (hd : decode c.code pc = .ok (.areturn, 1)) (hq : Q (some w) T.heap locs) (hk : cells ≤ K) (hn : slots ≤ N) : own_Go p e below (own_Post s Q K N) (T.setTop (mkF m pc Ls (w :: rest))) :=
  own_out X (fun h => by rw [hret] at h; cases h) hlk (fun fs hr => retOut X hx hret (by cases t <;> first | (cases ht; done) | (cases w <;> first | rfl | (cases hw; done))) (Or.inr (Or.inr (Or.inr (Or.inr ⟨rfl, ht, hw⟩)))) hd hr) hq hk hn
theorem own_retV (X : Stand p l e R s m args below meth c T locs cells slots) (hx : p.tables.exec = Jvm.exec) {pc : Nat} {Ls : Array Slot} (hret : meth.sig.returnType = none) (hlk : meth.locks = false)
    (hd : decode c.code pc = .ok (.return_, 1)) (hq : Q none T.heap locs) (hk : cells ≤ K) (hn : slots ≤ N) : own_Go p e below (own_Post s Q K N) (T.setTop (mkF m pc Ls [])) :=
  own_out X (fun _ => rfl) hlk (fun fs hr => X.returnOut hx hret hd hr) hq hk hn
end Out
abbrev own_PostW (s : State) (Q : Option Value → Heap → List Loc → Prop) (K N : Nat) : Outcome → State → Prop := fun o U => ∃ v L, o = .returned v ∧ Q v U.heap L ∧ ReturnedEndW s o U L K N
theorem own_startW {U : State} {K N : Nat} (Q : Option Value → Heap → List Loc → Prop) (k : own_Go p e below (own_PostW s Q K N) U) : ∃ s₂ o, Steps p.tables e below U s₂ ∧ s₂.status = .running ∧ Ended s₂ below o ∧ ∃ v L, o = .returned v ∧ Q v s₂.heap L ∧ ReturnedEndW s o s₂ L K N := k
section OutW
variable {Q : Option Value → Heap → List Loc → Prop} {K N k0 : Nat} {vm0 : Vm}
theorem own_outW (X : Stand p l e R (s.setVm vm0) m args below meth c T locs cells slots) (hS : s.Since vm0 k0) (hk0 : k0 ≤ T.heap.size) {v : Option Value} (hv : meth.sig.returnType = none → v = none) (hlk : meth.locks = false) {g : JFrame}
    (st : ∀ fs, (∀ (f : JFrame) (acts : List Action), f.method = m → f.locked = none → f.entered = [] → (doReturn e (T.setTop f) acts v).1 = T.setFrames fs) → Steps p.tables e below (T.setTop g) (T.setFrames fs)) (hq : Q v T.heap locs) (hk : cells ≤ K) (hn : slots ≤ N) : own_Go p e below (own_PostW s Q K N) (T.setTop g) := by
  obtain ⟨fs, hr, hrun, hended, h1, h2, h3, hsame⟩ := X.leaveW hS hk0 (v := v) hv hlk
  exact ⟨_, _, st fs hr, hrun, hended, v, locs, rfl, hq, h1, h2, h3, hsame.mono hk hn⟩
theorem own_retNW (X : Stand p l e R (s.setVm vm0) m args below meth c T locs cells slots) (hx : p.tables.exec = Jvm.exec) (hS : s.Since vm0 k0) (hk0 : k0 ≤ T.heap.size) {pc : Nat} {Ls : Array Slot} {z w : Int32} {t : FieldType} {rest : List Value} (hret : meth.sig.returnType = some t) (ht : t = .boolean ∨ t = .byte ∨ t = .char ∨ t = .short) (hn' : nar t z = w) (hlk : meth.locks = false)
    (hd : decode c.code pc = .ok (.ireturn, 1)) (hq : Q (some (.int w)) T.heap locs) (hk : cells ≤ K) (hn : slots ≤ N) : own_Go p e below (own_PostW s Q K N) (T.setTop (mkF m pc Ls (.int z :: rest))) := by
  subst hn'
  exact own_outW X hS hk0 (fun h => by rw [hret] at h; cases h) hlk (fun fs hr => retN X hx hret ht hd hr) hq hk hn
theorem own_retIW (X : Stand p l e R (s.setVm vm0) m args below meth c T locs cells slots) (hx : p.tables.exec = Jvm.exec) (hS : s.Since vm0 k0) (hk0 : k0 ≤ T.heap.size) {pc : Nat} {Ls : Array Slot} {z : Int32} {rest : List Value} (hret : meth.sig.returnType = some .int) (hlk : meth.locks = false)
    (hd : decode c.code pc = .ok (.ireturn, 1)) (hq : Q (some (.int z)) T.heap locs) (hk : cells ≤ K) (hn : slots ≤ N) : own_Go p e below (own_PostW s Q K N) (T.setTop (mkF m pc Ls (.int z :: rest))) :=
  own_outW X hS hk0 (fun h => by rw [hret] at h; cases h) hlk (fun fs hr => retOut X hx hret rfl (Or.inl ⟨rfl, Or.inl rfl, _, rfl⟩) hd hr) hq hk hn
theorem own_retRW (X : Stand p l e R (s.setVm vm0) m args below meth c T locs cells slots) (hx : p.tables.exec = Jvm.exec) (hS : s.Since vm0 k0) (hk0 : k0 ≤ T.heap.size) {pc : Nat} {Ls : Array Slot} {w : Value} {t : FieldType} {rest : List Value} (hret : meth.sig.returnType = some t) (ht : t.isReference = true) (hw : w.isRef = true) (hlk : meth.locks = false)
    (hd : decode c.code pc = .ok (.areturn, 1)) (hq : Q (some w) T.heap locs) (hk : cells ≤ K) (hn : slots ≤ N) : own_Go p e below (own_PostW s Q K N) (T.setTop (mkF m pc Ls (w :: rest))) :=
  own_outW X hS hk0 (fun h => by rw [hret] at h; cases h) hlk (fun fs hr => retOut X hx hret (by cases t <;> first | (cases ht; done) | (cases w <;> first | rfl | (cases hw; done))) (Or.inr (Or.inr (Or.inr (Or.inr ⟨rfl, ht, hw⟩)))) hd hr) hq hk hn
theorem own_retVW (X : Stand p l e R (s.setVm vm0) m args below meth c T locs cells slots) (hx : p.tables.exec = Jvm.exec) (hS : s.Since vm0 k0) (hk0 : k0 ≤ T.heap.size) {pc : Nat} {Ls : Array Slot} (hret : meth.sig.returnType = none) (hlk : meth.locks = false)
    (hd : decode c.code pc = .ok (.return_, 1)) (hq : Q none T.heap locs) (hk : cells ≤ K) (hn : slots ≤ N) : own_Go p e below (own_PostW s Q K N) (T.setTop (mkF m pc Ls [])) :=
  own_outW X hS hk0 (fun _ => rfl) hlk (fun fs hr => X.returnOut hx hret hd hr) hq hk hn
end OutW
theorem own_ole {Z : State} {n0 : Nat} {h : Heap} (X : Old Z n0 h) : n0 ≤ h.size := X.1 ▸ X.2.1
theorem own_same {s : State} {a0 : Array Value} {y z : MethodName} {C : String} (hn : y.cls ≠ "java/lang/invoke/MethodHandle" ∧ y.cls ≠ "java/lang/invoke/VarHandle") (hz : z.cls = y.cls) (w1 : (Cond.declares y).before a0 s = true) (w2 : (Cond.selects C z z).before a0 s = true) (w3 : (Cond.instanceMethod z).before a0 s = true) : (Cond.sameMethod y.cls y.cls y.name y.desc).before a0 s = true := by
  obtain ⟨m, meth, h1, h2, -, -⟩ := Cond.declares_spec w1
  have h3 := State.methodFound?_of_named h1 hn
  have h4 := findClass_of_methodNamed h1
  obtain ⟨mz, methz, g1, -⟩ := Cond.instanceMethod_spec w3
  obtain ⟨k, g2, g3⟩ := notFace_of_selects w2 mz g1
  have h5 := findClass_of_methodNamed g1
  rw [hz] at h5
  have e : m.cls = mz.cls := Option.some.inj (h4.symm.trans h5)
  have h1' : s.methodNamed? ⟨y.cls, y.name, y.desc⟩ = some m := h1
  rw [← e] at g2
  simp [Cond.before, Cond.holds, Cond.value, h3, h4, h1', g2, g3]
theorem own_decl {s : State} {a0 : Array Value} {y : MethodName} {b : ByteArray} {n : Nat} {r : Option FieldType} (w1 : (Cond.instanceMethod y).before a0 s = true) (w2 : (Cond.code y b n r).before a0 s = true) : (Cond.declares y).before a0 s = true := by
  obtain ⟨m, meth, h1, h2, h3, -⟩ := Cond.instanceMethod_spec w1
  obtain ⟨meth', c, g1, -, -, -, -, -, -, g8⟩ := Cond.code_spec h1 w2
  cases h2.symm.trans g1
  simp [Cond.before, Cond.holds, Cond.value, h1, h2, h3, g8]
theorem own_nf {s : State} {args : Array Value} {C : String} {y z : MethodName} (e : y.cls = z.cls) (hsel : (Cond.selects C z z).before args s = true) (hi : (Cond.instanceMethod z).before args s = true) : NotFace s y := fun r0 h0 => by
  obtain ⟨m, meth, h1, -⟩ := Cond.instanceMethod_spec hi
  obtain ⟨kr, k1, k2⟩ := notFace_of_selects hsel m h1
  have q0 := findClass_of_methodNamed h0
  have q1 := findClass_of_methodNamed h1
  rw [e] at q0
  have q2 : r0.cls = m.cls := Option.some.inj (q0.symm.trans q1)
  exact ⟨kr, by rw [q2]; exact k1, k2⟩
theorem own_hk {T : State} {h : Heap} {k0 : Nat} (e : T.heap = h) (q : k0 ≤ h.size) : k0 ≤ T.heap.size := Nat.le_trans q (Nat.le_of_eq (congrArg Array.size e.symm))
theorem own_lat2 {cs : List Int32} (h : ∀ c ∈ cs, ¬ c < 0 ∧ ¬ (255 : Int32) < c) : ∀ c ∈ cs, ¬ (255 : Int32) < c := fun c hc => (h c hc).2
theorem own_nm0 {a : Addr} : a ∉ ([] : List Addr) := List.not_mem_nil
theorem own_nmS {a b : Addr} {L : List Addr} (h : a ≠ b) (r : a ∉ L) : a ∉ b :: L := fun q => (List.mem_cons.mp q).elim h r
theorem own_cat {v : Value} (h : v.isRef = true) : v.category = 1 := by cases v <;> first | rfl | (cases h; done)
theorem own_narR {v : Value} {C : String} (h : v.isRef = true) : narrow (.object C) v = v := by cases v <;> first | rfl | (cases h; done)
theorem own_narA {v : Value} {t : FieldType} (h : v.isRef = true) : narrow (.array t) v = v := by cases v <;> first | rfl | (cases h; done)
theorem own_fitA {v : Value} {t : FieldType} (h : v.isRef = true) : fits (.array t) v = true := by cases v <;> first | rfl | (cases h; done)
theorem own_fitR {v : Value} {C : String} (h : v.isRef = true) : fits (.object C) v = true := by cases v <;> first | rfl | (cases h; done)
theorem own_all0 {P : Int32 → Prop} : ∀ x ∈ ([] : List Int32), P x := fun _ q => nomatch q
theorem own_allS {P : Int32 → Prop} {y : Int32} {L : List Int32} (q : P y) (r : ∀ x ∈ L, P x) : ∀ x ∈ y :: L, P x := fun x z => (List.mem_cons.mp z).elim (fun u => u ▸ q) (r x)
theorem own_i2c_rng (x : Int32) : ¬ x.toUInt32.toUInt16.toUInt32.toInt32 < 0 ∧ ¬ (65535 : Int32) < x.toUInt32.toUInt16.toUInt32.toInt32 := by
  have q := c_i2c x
  have e1 : (65535 : Int32).toInt = 65535 := rfl
  have e0 : (0 : Int32).toInt = 0 := rfl
  simp only [Int32.lt_iff_toInt_lt, e1, e0]
  omega
theorem own_and255 (x : Int32) : ¬ (x &&& (255 : Int32)).toUInt32.toUInt16.toUInt32.toInt32 < 0 ∧ ¬ (255 : Int32) < (x &&& (255 : Int32)).toUInt32.toUInt16.toUInt32.toInt32 := by
  rw [i2c_mask]
  have q := c_and x 255 (by decide)
  have e1 : (255 : Int32).toInt = 255 := rfl
  have e0 : (0 : Int32).toInt = 0 := rfl
  simp only [Int32.lt_iff_toInt_lt, e1, e0] at q ⊢
  omega
theorem own_up {x : Int32} (h : ¬ x < 0 ∧ ¬ (255 : Int32) < x) : ¬ x < 0 ∧ ¬ (65535 : Int32) < x := by
  have e1 : (255 : Int32).toInt = 255 := rfl
  have e2 : (65535 : Int32).toInt = 65535 := rfl
  have e0 : (0 : Int32).toInt = 0 := rfl
  simp only [Int32.lt_iff_toInt_lt, e1, e2, e0] at h ⊢
  omega
theorem own_i2c_id {x : Int32} (h : ¬ x < 0 ∧ ¬ (65535 : Int32) < x) : x.toUInt32.toUInt16.toUInt32.toInt32 = x := by
  have q := c_i2c x
  have e2 : (65535 : Int32).toInt = 65535 := rfl
  have e0 : (0 : Int32).toInt = 0 := rfl
  simp only [Int32.lt_iff_toInt_lt, e2, e0] at h
  apply Int32.toInt_inj.mp
  omega
theorem own_narC {x : Int32} (h : ¬ x < 0 ∧ ¬ (65535 : Int32) < x) : nar .char x = x := own_i2c_id h
theorem own_fitC {x : Int32} (h : ¬ x < 0 ∧ ¬ (65535 : Int32) < x) : fits .char (.int x) = true := by rw [← own_narC h]; exact fits_nar_char x
theorem own_narB {x : Int32} : nar .byte (x.toInt8.toInt32) = x.toInt8.toInt32 := by
  have h : ∀ y : Int8, y.toInt32.toInt8 = y := fun y => by simp
  show (x.toInt8.toInt32).toInt8.toInt32 = _
  rw [h]
theorem own_narZ {x : Int32} (h : x = 0 ∨ x = 1) : nar .boolean x = x := by rcases h with rfl | rfl <;> rfl
/-- a String that spells the chars cs; its bytes lie in the array u -/
def own_Str (Z : State) (h : Heap) (a u : Addr) (cs : List Int32) : Prop := Exa Z h a "java/lang/String" ∧ ∃ (cd N : Int32) (k : ClassId) (vs : List Value), Fld Z h a "java/lang/String" "value" "[B" (.ref u) ∧ Fld Z h a "java/lang/String" "coder" "B" (.int cd) ∧ Arv Z h u k .byte N vs (.int 0) ∧ StrChars.Road.CodA cs cd N vs ∧ (∀ c ∈ cs, ¬ c < 0 ∧ ¬ (65535 : Int32) < c) ∧ cs.length ≤ 4000
section Str
variable {Z : State} {h h' : Heap} {a u b : Addr} {cs : List Int32} {ws : List Addr} {sl : Nat} {v : Value}
theorem own_Str.lt (F : own_Str Z h a u cs) : a < h.size := F.1.lt
theorem own_Str.lt2 (F : own_Str Z h a u cs) : u < h.size := by obtain ⟨_, _, _, _, _, _, _, K, _⟩ := F; exact K.lt
theorem own_Str.ext (F : own_Str Z h a u cs) (E : Ext h h') : own_Str Z h' a u cs := by
  obtain ⟨x, cd, N, k, vs, f1, f2, f3, r⟩ := F
  exact ⟨x.ext E, cd, N, k, vs, f1.ext E, f2.ext E, f3.ext E, r⟩
theorem own_Str.keep (F : own_Str Z h a u cs) (K : Keep h h' ws) (q : a ∉ ws) (q' : u ∉ ws) : own_Str Z h' a u cs := by
  obtain ⟨x, cd, N, k, vs, f1, f2, f3, r⟩ := F
  exact ⟨x.keep K, cd, N, k, vs, f1.keep K q, f2.keep K q, f3.keep K q', r⟩
theorem own_Str.wr (F : own_Str Z h a u cs) (W : Wr h h' b sl v) (q : a ≠ b) (q' : u ≠ b) : own_Str Z h' a u cs := by
  obtain ⟨x, cd, N, k, vs, f1, f2, f3, r⟩ := F
  exact ⟨x.wr W, cd, N, k, vs, f1.other W (Or.inl q), f2.other W (Or.inl q), f3.other W q', r⟩
theorem own_mkStr0 {k : ClassId} {N : Int32} (E : Exa Z h a "java/lang/String") (V : Fld Z h a "java/lang/String" "value" "[B" (.ref u)) (C : Fld Z h a "java/lang/String" "coder" "B" (.int 0)) (K : Arv Z h u k .byte N ((cs.map (fun c => c.toInt8.toInt32)).map Value.int) (.int 0)) (hN : N = Int32.ofNat cs.length) (hp : ∀ c ∈ cs, ¬ c < 0 ∧ ¬ (255 : Int32) < c) (l : cs.length ≤ 4000) : own_Str Z h a u cs :=
  ⟨E, 0, N, k, _, V, C, K, by rw [hN]; exact StrChars.Road.codOf rfl (fun c hc => (hp c hc).2), fun c hc => own_up (hp c hc), l⟩
theorem own_mkLit {k : ClassId} {N : Int32} {vs : List Value} (E : Exa Z h a "java/lang/String") (V : Fld Z h a "java/lang/String" "value" "[B" (.ref u)) (C : Fld Z h a "java/lang/String" "coder" "B" (.int 0)) (K : Arv Z h u k .byte N vs (.int 0)) (hN : N = Int32.ofNat cs.length) (hp : ∀ c ∈ cs, ¬ c < 0 ∧ ¬ (255 : Int32) < c) (hv : vs = cs.map (fun c => Value.int (StrChars.lo8 c))) (l : cs.length ≤ 4000) : own_Str Z h a u cs :=
  ⟨E, 0, N, k, vs, V, C, K, Or.inl ⟨rfl, hN, hv, fun c hc => (hp c hc).2⟩, fun c hc => own_up (hp c hc), l⟩
/-- what a String of signs up to 255 holds -/
theorem own_Str.latin (F : own_Str Z h a u cs) (hp : ∀ c ∈ cs, ¬ (255 : Int32) < c) : ∃ (N : Int32) (k : ClassId) (vs : List Value), Exa Z h a "java/lang/String" ∧ Fld Z h a "java/lang/String" "value" "[B" (.ref u) ∧ Fld Z h a "java/lang/String" "coder" "B" (.int 0) ∧ Arv Z h u k .byte N vs (.int 0) ∧ StrChars.Road.CodA cs 0 N vs ∧ (∀ c ∈ cs, ¬ c < 0 ∧ ¬ (65535 : Int32) < c) ∧ cs.length ≤ 4000 := by
  obtain ⟨x, cd, N, k, vs, f1, f2, f3, f4, f5, f6⟩ := F
  have e : cd = 0 := by
    rcases f4 with ⟨q, -⟩ | ⟨-, -, -, c, hc, hw⟩
    · exact q
    · exact absurd hw (hp c hc)
  subst e
  exact ⟨N, k, vs, x, f1, f2, f3, f4, f5, f6⟩
theorem own_Str.latinL (F : own_Str Z h a u cs) (hp : ∀ c ∈ cs, ¬ (255 : Int32) < c) : ∃ (k : ClassId), Exa Z h a "java/lang/String" ∧ Fld Z h a "java/lang/String" "value" "[B" (.ref u) ∧ Fld Z h a "java/lang/String" "coder" "B" (.int 0) ∧ Arv Z h u k .byte (Int32.ofNat cs.length) (cs.map (fun c => Value.int (StrChars.lo8 c))) (.int 0) ∧ (∀ c ∈ cs, ¬ c < 0 ∧ ¬ (65535 : Int32) < c) := by
  obtain ⟨x, cd, N, k, vs, f1, f2, f3, f4, f5, f6⟩ := F
  rcases f4 with ⟨q1, q2, q3, -⟩ | ⟨-, -, -, c, hc, hw⟩
  · subst q1 q2 q3
    exact ⟨k, x, f1, f2, f3, f5⟩
  · exact absurd hw (hp c hc)
/-- what a String with a sign above 255 holds -/
theorem own_Str.wideL (F : own_Str Z h a u cs) (hp : ∃ c ∈ cs, (255 : Int32) < c) : ∃ (k : ClassId), Exa Z h a "java/lang/String" ∧ Fld Z h a "java/lang/String" "value" "[B" (.ref u) ∧ Fld Z h a "java/lang/String" "coder" "B" (.int 1) ∧ Arv Z h u k .byte (Int32.ofNat (2 * cs.length)) (StrChars.Road.wideBytes cs) (.int 0) ∧ (∀ c ∈ cs, ¬ c < 0 ∧ ¬ (65535 : Int32) < c) := by
  obtain ⟨x, cd, N, k, vs, f1, f2, f3, f4, f5, f6⟩ := F
  rcases f4 with ⟨-, -, -, q⟩ | ⟨q1, q2, q3, -⟩
  · obtain ⟨c, hc, hw⟩ := hp
    exact absurd hw (q c hc)
  · subst q1 q2 q3
    exact ⟨k, x, f1, f2, f3, f5⟩
end Str
theorem own_exA {Z : State} {h : Heap} {a u : Addr} {C : String} {n : Nat} {a0 : Array Value} {k : ClassId} {ty : FieldType} {z : Int32} {vs : List Value} {d : Value} (A : Arv Z h u k ty z vs d) (E : Exa Z h a C) (w : (Cond.instantiable C n).before a0 Z = true) : u ≠ a := by
  intro q
  subst q
  obtain ⟨cell, kk, e1, e2, e3, -, -⟩ := E
  obtain ⟨cl, ⟨a1, ⟨-, k', a3, comp, a4⟩, -⟩, -⟩ := A
  cases e1.symm.trans a1
  obtain ⟨t', k2, g1, g2, g3, -⟩ := Cond.instantiable_spec w
  cases g1.symm.trans e2
  cases g2.symm.trans a3
  rw [a4] at g3
  cases g3
theorem own_exU {Z : State} {h : Heap} {a u b : Addr} {cs : List Int32} {C : String} {n : Nat} {a0 : Array Value} (F : own_Str Z h b u cs) (E : Exa Z h a C) (w : (Cond.instantiable C n).before a0 Z = true) : u ≠ a := by
  obtain ⟨_, _, _, _, _, _, _, K, _⟩ := F
  exact own_exA K E w
section Sets
theorem own_staI {s : State} {args : Array Value} {C n d : String} {k : Int32} (h : (Cond.eq (.static C n d) (.int k)).value args s none s [] = some true) (hi : (Cond.initializedFor C n d).before args s = true) : Sta s s.heap C n d (.int k) := by
  obtain ⟨x, y, h1, h2, h3, h4⟩ := cmp_v (Or.inl h)
  cases (Term.int_eval (args := args) (first := s) (o := none) (idx := []) (s := s) k).symm.trans h2
  obtain ⟨z, rfl⟩ := h4
  have e := gotT (Cond.eq_ints h1 (Term.int_eval k)) h
  subst e
  exact Sta.start h1 (Or.inl hi)
theorem own_fldI {s : State} {args : Array Value} {t : Term} {a : Addr} {C n d : String} {k : Int32} (ev : t.eval args s none [] s = some (.ref a)) (h : (Cond.eq (.field t C n d) (.int k)).value args s none s [] = some true) : s.fieldOf? a C n d = some (.int k) := by
  obtain ⟨x, y, h1, h2, h3, h4⟩ := cmp_v (Or.inl h)
  cases (Term.int_eval (args := args) (first := s) (o := none) (idx := []) (s := s) k).symm.trans h2
  obtain ⟨z, rfl⟩ := h4
  have e := gotT (Cond.eq_ints h1 (Term.int_eval k)) h
  subst e
  rw [fld_at ev] at h1
  exact h1
end Sets
section Not
variable {Z : State} {a0 : Array Value}
theorem own_NSroot {O K : String} {n : Nat} (w : (Cond.noSuperclass O).before a0 Z = true) (wk : (Cond.instantiable K n).before a0 Z = true) (hn : O ≠ K) : NS Z O K := by
  obtain ⟨c, k, h1, h2, h3, -, -⟩ := Cond.noSuperclass_spec w
  obtain ⟨t, k2, g1, g2, g3, -⟩ := Cond.instantiable_spec wk
  have ne := ids_ne h1 g1 hn
  refine ⟨c, t, h1, g1, fun fuel => ?_⟩
  cases fuel with
  | zero => rfl
  | succ f => simp [Vm.isSubclassAux, ne, h2, h3]
theorem own_NSno {C S K : String} {n : Nat} (w : (Cond.superclass C S).before a0 Z = true) (wk : (Cond.instantiable K n).before a0 Z = true) (m : NS Z C K) (hn : C ≠ K) : ∃ c t, Z.vm.findClass C = some c ∧ Z.vm.findClass K = some t ∧ Z.vm.assignable c t = false := by
  obtain ⟨c, t, h0, g0, n3⟩ := m
  obtain ⟨p, k, kp, h1, h2, h3, h4, h5, -, h7⟩ := Cond.superclass_spec h0 w
  obtain ⟨t', k', g1, g2, g3, g4⟩ := Cond.instantiable_spec wk
  cases g0.symm.trans g1
  have ne := ids_ne h0 g0 hn
  refine ⟨c, t, h0, g0, ?_⟩
  show Z.vm.assignableAux (255 + 1) c t = false
  have g5 : k'.isInterface = false := (Bool.or_eq_false_iff.mp g4.1).1
  simp [Vm.assignableAux, ne, h2, g2, h5, g3, g5, Vm.isSubclass, n3]
end Not
end OwnKit

def own_St (Z : State) : Prop := (∃ G1 : Int32, Sta Z Z.heap "java/lang/String" "COMPACT_STRINGS" "Z" (.int G1) ∧ ¬ (G1 = (0 : Int32))) ∧ (∃ G3 : Value, Sta Z Z.heap "jdk/internal/util/Preconditions" "SIOOBE_FORMATTER" "Ljava/util/function/BiFunction;" G3 ∧ G3.isRef = true) ∧ (∃ (iC : Addr) (iL : Cell), Sta Z Z.heap "java/lang/Integer$IntegerCache" "high" "I" (.int (127 : Int32)) ∧ Sta Z Z.heap "java/lang/Integer$IntegerCache" "cache" "[Ljava/lang/Integer;" (.ref iC) ∧ Arr Z Z.heap iC iL (.object "java/lang/Integer") ∧ ∀ w : Int32, ¬ w < (-128 : Int32) → ¬ (127 : Int32) < w → ¬ ((w + (128 : Int32)) < 0 ∨ iL.slots.size ≤ (w + (128 : Int32)).toNatClampNeg) ∧ ∃ b : Addr, iL.slots[(w + (128 : Int32)).toNatClampNeg]? = some (.ref b) ∧ Exa Z Z.heap b "java/lang/Integer" ∧ Fld Z Z.heap b "java/lang/Integer" "value" "I" (.int w)) ∧ (∃ ec0 ec1 ec2 ec3 ec4 ec5 ec6 ec7 ec8 : Addr, Sta Z Z.heap "com/example/hamal/hamal/api/ErrorCode" "INVALID_REQUEST" "Lcom/example/hamal/hamal/api/ErrorCode;" (.ref ec0) ∧ Sta Z Z.heap "com/example/hamal/hamal/api/ErrorCode" "UNAUTHORIZED" "Lcom/example/hamal/hamal/api/ErrorCode;" (.ref ec1) ∧ Sta Z Z.heap "com/example/hamal/hamal/api/ErrorCode" "FORBIDDEN" "Lcom/example/hamal/hamal/api/ErrorCode;" (.ref ec2) ∧ Sta Z Z.heap "com/example/hamal/hamal/api/ErrorCode" "NOT_FOUND" "Lcom/example/hamal/hamal/api/ErrorCode;" (.ref ec3) ∧ Sta Z Z.heap "com/example/hamal/hamal/api/ErrorCode" "CONFLICT" "Lcom/example/hamal/hamal/api/ErrorCode;" (.ref ec4) ∧ Sta Z Z.heap "com/example/hamal/hamal/api/ErrorCode" "GONE" "Lcom/example/hamal/hamal/api/ErrorCode;" (.ref ec5) ∧ Sta Z Z.heap "com/example/hamal/hamal/api/ErrorCode" "TOO_MANY_REQUESTS" "Lcom/example/hamal/hamal/api/ErrorCode;" (.ref ec6) ∧ Sta Z Z.heap "com/example/hamal/hamal/api/ErrorCode" "INTERNAL" "Lcom/example/hamal/hamal/api/ErrorCode;" (.ref ec7) ∧ Sta Z Z.heap "com/example/hamal/hamal/api/ErrorCode" "UNAVAILABLE" "Lcom/example/hamal/hamal/api/ErrorCode;" (.ref ec8)) ∧ (∃ oe : Addr, Sta Z Z.heap "java/util/OptionalInt" "EMPTY" "Ljava/util/OptionalInt;" (.ref oe) ∧ Exa Z Z.heap oe "java/util/OptionalInt" ∧ Fld Z Z.heap oe "java/util/OptionalInt" "isPresent" "Z" (.int (0 : Int32))) ∧ (∃ uS uP : Value, Sta Z Z.heap "java/lang/Throwable" "UNASSIGNED_STACK" "[Ljava/lang/StackTraceElement;" uS ∧ uS.isRef = true ∧ Sta Z Z.heap "java/lang/Throwable" "SUPPRESSED_SENTINEL" "Ljava/util/List;" uP ∧ uP.isRef = true) ∧ True
theorem own_hws {a0 : Array Value} {Z : State} (hw : ∀ d ∈ tables_1, d.before a0 Z = true) : ∀ d ∈ StrChars.Road.words, d.before a0 Z = true := fun d hd => hw d ((by decide +kernel : ∀ d ∈ StrChars.Road.words, d ∈ tables_1) d hd)
theorem own_intcache {s : State} {args : Array Value} (h1 : (Cond.eq (.static "java/lang/Integer$IntegerCache" "high" "I") (.int 127)).value args s none s [] = some true) (h2 : (Cond.initializedFor "java/lang/Integer$IntegerCache" "high" "I").before args s = true) (h3 : (Cond.laysStatic "java/lang/Integer$IntegerCache" "cache" "[Ljava/lang/Integer;").before args s = true)
    (h4 : (Cond.arrayOf (.static "java/lang/Integer$IntegerCache" "cache" "[Ljava/lang/Integer;") (.object "java/lang/Integer")).value args s none s [] = some true) (h5 : (Cond.eq (.length (.static "java/lang/Integer$IntegerCache" "cache" "[Ljava/lang/Integer;")) (.int 256)).value args s none s [] = some true)
    (h6 : (Cond.all (.static "java/lang/Integer$IntegerCache" "cache" "[Ljava/lang/Integer;") (.and (.exactly (.elem (.static "java/lang/Integer$IntegerCache" "cache" "[Ljava/lang/Integer;") (.index 0)) "java/lang/Integer") (.eq (.field (.elem (.static "java/lang/Integer$IntegerCache" "cache" "[Ljava/lang/Integer;") (.index 0)) "java/lang/Integer" "value" "I") (.sub (.index 0) (.int 128))))).value args s none s [] = some true) (h7 : (Cond.initialized "java/lang/Integer$IntegerCache").before args s = true) :
    ∃ (iC : Addr) (iL : Cell), Sta s s.heap "java/lang/Integer$IntegerCache" "high" "I" (.int (127 : Int32)) ∧ Sta s s.heap "java/lang/Integer$IntegerCache" "cache" "[Ljava/lang/Integer;" (.ref iC) ∧ Arr s s.heap iC iL (.object "java/lang/Integer") ∧ ∀ w : Int32, ¬ w < (-128 : Int32) → ¬ (127 : Int32) < w → ¬ ((w + (128 : Int32)) < 0 ∨ iL.slots.size ≤ (w + (128 : Int32)).toNatClampNeg) ∧ ∃ b : Addr, iL.slots[(w + (128 : Int32)).toNatClampNeg]? = some (.ref b) ∧ Exa s s.heap b "java/lang/Integer" ∧ Fld s s.heap b "java/lang/Integer" "value" "I" (.int w) := by
  obtain ⟨a, ev⟩ := arr_v h4
  obtain ⟨c, A⟩ := Arr.start ev h4
  obtain ⟨q, e⟩ := Jvm.Free.IntBox.length_fwd (Cond.before_iff.mpr h5) ev A.1 A.2.1 A.2.2
  have B : Bxs s a c "java/lang/Integer" "I" 256 (fun j => .int (j - 128)) := Bxs.start (F := .sub (.index 0) (.int 128)) (fun _ => ev) A q e (by decide) h6 (fun X j nn h => eqv_i (by
    have e := idx_at (args := args) (s := s) (first := s) (o := none) nn
    simp only [Term.eval] at e ⊢
    rw [e]; rfl) h)
  have sz : c.slots.size = 256 := B.2.1
  refine ⟨a, c, own_staI h1 h2, Sta.start ev (Or.inr ⟨h7, h3⟩), A, fun w hl hh => ?_⟩
  have pl := Jvm.Free.IntBox.place_ok w hl hh
  have hb : ¬ ((w + (128 : Int32)) < 0 ∨ c.slots.size ≤ (w + (128 : Int32)).toNatClampNeg) := by rw [sz]; exact pl.1
  obtain ⟨b, x1, x2, x3⟩ := B.2.2.2 (w + 128) hb
  have e2 : w + 128 - 128 = w := Int32.add_sub_cancel w 128
  refine ⟨hb, b, x1, x2, ?_⟩
  simp only [e2] at x3
  exact x3
section OwnFill
open Jvm.Free.Exc Jvm.Lib.Cold Jvm.Free.Str LibCode.Throwable
def own_tA : List Jvm.Cond := (throwableAtoms.filter fun c => decide (c ≠ .lays tN tN "suppressedExceptions" listD)) ++ [.lays "com/example/hamal/hamal/api/ApiException" tN "suppressedExceptions" listD, .lays "com/example/hamal/hamal/api/ApiException" tN "stackTrace" steD]
def own_fA : List Jvm.Cond := own_tA ++ [.declares tFill, .selects "com/example/hamal/hamal/api/ApiException" tFill0 tFill0, .selects "com/example/hamal/hamal/api/ApiException" tFill tFill, .fieldLink tN 198 tN "backtrace" obD, .lays "com/example/hamal/hamal/api/ApiException" tN "backtrace" obD, .arrayOver (.object "java/lang/Object"), .soleField tN "backtrace", .soleField tN "depth", .lays "com/example/hamal/hamal/api/ApiException" tN "depth" "I"]
set_option maxHeartbeats 4000000 in
theorem own_links {args : Array Value} {s : State} {pl : Platform} (howns : pl.frameOwnsMonitors = true) (hfin : pl.finalization = false) (hpl : pl.magicAccessors = ({} : Platform).magicAccessors)
    (h : ∀ c ∈ own_tA, c.before args s = true) :
    ∃ (T : ThrowableC) (Z : Init0T), T.Links pl s ∧ Z.Laid T.toThrowableT ∧ Ties T Z s := by
  have a : ∀ c, c ∈ own_tA → c.holds args s none s [] = true := fun c hc => h c hc

  obtain ⟨⟨c, i0⟩, meth0, hn0, hm0, hnat0, hcode0, hlocks0, hsig0⟩ := Cond.native_spec (a (.native tFill0) (by decide +kernel))
  have hc : s.vm.findClass tN = some c := findClass_of_methodNamed hn0
  obtain ⟨k, hk, hname⟩ := Vm.findClass_spec hc
  have hboot := Vm.findClass_boot hc hk
  have hinit := Cond.initialized_spec hc hk (a (.initialized tN) (by decide +kernel))
  obtain ⟨_, k1, _, _, hk1, _, _, hord, _, hni⟩ := Cond.superclass_spec hc (a (.superclass tN "java/lang/Object") (by decide +kernel))
  have e1 : k = k1 := Option.some.inj (hk.symm.trans hk1)
  subst e1

  obtain ⟨iF, methF, hnF, hmF, hatF, hstF, habF, -, -⟩ := Cond.ownMethod (x := tFill) hc hk (a (.instanceMethod tFill) (by decide +kernel))
  obtain ⟨methF', cF, hmF', hcF, hbF, hlF, hrF, hlkF, -, hsigF⟩ := Cond.codeSync_spec hnF (a (.codeSync tFill Fill.code 1 (some (.object tN))) (by decide +kernel))
  have e2 : methF = methF' := Option.some.inj (hmF.symm.trans hmF')
  subst e2
  obtain ⟨i0', meth0', hn0', hm0', hat0, hst0, hab0, hnm0, hds0⟩ := Cond.ownMethod (x := tFill0) hc hk (a (.instanceMethod tFill0) (by decide +kernel))
  have e3 : i0 = i0' := by have := Option.some.inj (hn0.symm.trans hn0'); simpa using this
  subst e3
  have e4 : meth0 = meth0' := Option.some.inj (hm0.symm.trans hm0')
  subst e4
  obtain ⟨iZ, methZ, hnZ, hmZ, hatZ, -, -, -, -⟩ := Cond.ownMethod (x := tInit0) hc hk (a (.instanceMethod tInit0) (by decide +kernel))
  obtain ⟨methZ', cZ, hmZ', hcZ, hbZ, hlZ, -, hlkZ, -, -⟩ := Cond.code_spec hnZ (a (.code tInit0 Init0.code 1 none) (by decide +kernel))
  have e5 : methZ = methZ' := Option.some.inj (hmZ.symm.trans hmZ')
  subst e5

  obtain ⟨mO, methO, hnO, hmO, hstO, habO⟩ := Cond.instanceMethod_spec (a (.instanceMethod oInit) (by decide +kernel))
  obtain ⟨methO', cO, hmO', hcO, hbO, hlO, -, hlkO, -, hsigO⟩ := Cond.code_spec hnO (a (.code oInit ⟨#[0xb1]⟩ 1 none) (by decide +kernel))
  have e6 : methO = methO' := Option.some.inj (hmO.symm.trans hmO')
  subst e6
  obtain ⟨kO, hkO, hnameO⟩ := Vm.findClass_spec (findClass_of_methodNamed hnO)
  obtain ⟨hnmO, hdsO⟩ := name_of_methodNamed hnO hmO

  obtain ⟨ci1, n1, cf, hl1, hr1, hcf, hp1⟩ := Cond.linkedMethod hc hk hnO (a (.methodLink tN 1 oInit) (by decide +kernel)) pl hpl
  obtain ⟨ci27, n27, cf', hl27, hr27, hcf', hp27⟩ := Cond.linkedMethod hc hk hnF (a (.methodLink tN 27 tFill) (by decide +kernel)) pl hpl
  have e7 : cf = cf' := Option.some.inj (hcf.symm.trans hcf')
  subst e7
  obtain ⟨ci202, n202, cf', hl202, hr202, hcf', hp202⟩ := Cond.linkedMethod hc hk hn0 (a (.methodLink tN 202 tFill0) (by decide +kernel)) pl hpl
  have e8 : cf = cf' := Option.some.inj (hcf.symm.trans hcf')
  subst e8

  obtain ⟨ci7, i7, f7, hk7, hg7, ha7, hs7, hf7, hn7, ht7, hff7⟩ := Cond.ownField (t := .object tN) hc hk (by decide +kernel) (a (.fieldLink tN 7 tN "cause" "Ljava/lang/Throwable;") (by decide +kernel)) (a (.lays tN tN "cause" "Ljava/lang/Throwable;") (by decide +kernel)) pl hpl
  obtain ⟨ci17, i17, f17, hk17, hg17, ha17, hs17, hf17, hn17, ht17, hff17⟩ := Cond.ownField (t := .array (.object "java/lang/StackTraceElement")) hc hk (by decide +kernel) (a (.fieldLink tN 17 tN "stackTrace" steD) (by decide +kernel)) (a (.lays tN tN "stackTrace" steD) (by decide +kernel)) pl hpl
  obtain ⟨ci24, i24, f24, hk24, hg24, ha24, hs24, hf24, hn24, ht24, hff24⟩ := Cond.ownField (t := .object "java/util/List") hc hk (by decide +kernel) (a (.fieldLink tN 24 tN "suppressedExceptions" listD) (by decide +kernel)) (a (.lays "com/example/hamal/hamal/api/ApiException" tN "suppressedExceptions" listD) (by decide +kernel)) pl hpl
  obtain ⟨ci13, i13, f13, aS, cellS, hk13, hg13, ha13, hs13, -, -, hsta, hcellS, hissS, -, -, hff13⟩ := Cond.ownStatic (t := .array (.object "java/lang/StackTraceElement")) hc hk (by decide +kernel) (a (.fieldLink tN 13 tN "UNASSIGNED_STACK" steD) (by decide +kernel)) (a (.laysStatic tN "UNASSIGNED_STACK" steD) (by decide +kernel)) pl hpl
  obtain ⟨ci20, i20, f20, _, _, hk20, hg20, ha20, hs20, -, -, -, -, -, -, -, hff20⟩ := Cond.ownStatic (t := .object "java/util/List") hc hk (by decide +kernel) (a (.fieldLink tN 20 tN "SUPPRESSED_SENTINEL" listD) (by decide +kernel)) (a (.laysStatic tN "SUPPRESSED_SENTINEL" listD) (by decide +kernel)) pl hpl
  obtain ⟨_, _, cM, kM, iM, fM, _, _, hffM, hsM, hfM, _⟩ := Cond.lays_spec (a (.lays tN tN "detailMessage" "Ljava/lang/String;") (by decide +kernel))
  have eM1 : c = cM := Option.some.inj (hc.symm.trans (Cond.lays_declared (a (.lays tN tN "detailMessage" "Ljava/lang/String;") (by decide +kernel)) hffM))
  subst eM1
  have eM2 : k = kM := Option.some.inj (hk.symm.trans (State.fieldFound?_spec hffM).1)
  subst eM2
  have htM := (State.fieldFound?_type hffM (t := .object "java/lang/String") (by decide +kernel)).2

  obtain ⟨_, _, _, _, _, g17, hc17, _, hgf17, _, _, _, _, d17, hd17, _, hdn17, _⟩ := Cond.lays_spec (a (.lays "com/example/hamal/hamal/api/ApiException" tN "stackTrace" steD) (by decide +kernel))
  obtain ⟨_, _, _, _, _, g24, hc24, _, hgf24, _, _, _, _, d24, hd24, _, hdn24, _⟩ := Cond.lays_spec (a (.lays "com/example/hamal/hamal/api/ApiException" tN "suppressedExceptions" listD) (by decide +kernel))
  have hapart : f17.slot ≠ f24.slot := by
    have x17 := Option.some.inj (hff17.symm.trans hgf17)
    have x24 := Option.some.inj (hff24.symm.trans hgf24)
    simp only [Prod.mk.injEq] at x17 x24
    obtain ⟨-, -, -, rfl⟩ := x17
    obtain ⟨-, -, -, rfl⟩ := x24
    cases Option.some.inj (hc24.symm.trans hc17)
    intro he
    rw [he] at hd17
    cases Option.some.inj (hd17.symm.trans hd24)
    have : ("stackTrace" : String) = "suppressedExceptions" := by rw [← hn17, ← hn24, ← hdn17, ← hdn24]
    exact absurd this (by decide)
  have pF : methF.sig.parameters = [] := by
    have : (parseMethodDescriptor tFill.desc).map (·.parameters) = some [] := by decide +kernel
    rw [hsigF] at this; simpa using this
  have p0 : meth0.sig.parameters = [.int] := by
    have : (parseMethodDescriptor tFill0.desc).map (·.parameters) = some [.int] := by decide +kernel
    rw [hsig0] at this; simpa using this
  have pO : methO.sig.parameters.length = 0 := by
    have : (parseMethodDescriptor oInit.desc).map (·.parameters) = some [] := by decide +kernel
    rw [hsigO] at this
    have : methO.sig.parameters = [] := by simpa using this
    rw [this]; rfl
  refine ⟨{ cT := c, kT := k, cO := c, aS := aS, fillIdx := iF, fill0Idx := i0, initSIdx := iZ, obj := mO, kObj := kO, methFill := methF, methFill0 := meth0, methInitS := methZ, methObj := methO, codeFill := cF, codeInitS := cZ, codeObj := cO,
              fBack := f7, fDepth := f7, fStack := f17, fCause := f7, fSupp := f24, fMsg := fM, fUnassigned := f13, fSentinel := f20, cfT := cf, ci1 := ci1, n1 := n1, ci27 := ci27, n27 := n27, ci202 := ci202, n202 := n202,
              ci7 := ci7, i7 := i7, ci13 := ci13, i13 := i13, ci17 := ci17, i17 := i17, ci20 := ci20, i20 := i20, ci24 := ci24, i24 := i24 }, { idx := iZ, meth := methZ, code := cZ }, ?_, ⟨hatZ, hcZ, hbZ, hlZ, hlkZ⟩,
    ⟨hc, hnF, hn0, hnZ, hlO, hord, hff7, hff17, hff24, hff13, hff20, ⟨iM, hffM⟩, htM, hn7, hn17, hn24, ht7, ht17, ht24, cellS, hcellS, hissS⟩⟩
  exact { owns := howns, noFinalization := hfin, cls := hk, name := hname, boot := hboot, notInterface := hni, initialized := hinit, statics := hsta,
          fillAt := hatF, fillCode := hcF, fillBytes := hbF, fillLocals := hlF, fillLocks := hlkF, fillStatic := hstF, fillAbstract := habF, fillReturns := hrF, fillParams := pF,
          fill0At := hat0, fill0Name := hnm0, fill0Desc := hds0, fill0Params := p0, fill0Static := hst0, fill0Native := hnat0, fill0Code := hcode0, fill0Locks := hlocks0, fill0Abstract := hab0,
          stackInstance := hs17, stackNotFinal := hf17, unassignedStatic := hs13,
          objClass := hkO, objClassName := hnameO, objMethod := hmO, objName := hnmO, objStatic := hstO, objAbstract := habO, objFound := by rw [hdsO]; exact lookupSpecial_of_named hnO hmO hstO, objParams := pO,
          objCode := hcO, objBytes := hbO, objLocks := hlkO, causeInstance := hs7, causeNotFinal := hf7, sentinelStatic := hs20, suppInstance := hs24, suppNotFinal := hf24, msgInstance := hsM, msgNotFinal := hfM, stackApartSupp := hapart,
          file := hcf, mlink1 := hl1, mright1 := hr1, pool1 := hp1, mlink27 := hl27, mright27 := hr27, pool27 := hp27, mlink202 := hl202, mright202 := hr202, pool202 := hp202,
          link7 := hk7, right7 := hg7, at7 := ha7, link13 := hk13, right13 := hg13, at13 := ha13, link17 := hk17, right17 := hg17, at17 := ha17, link20 := hk20, right20 := hg20, at20 := ha20, link24 := hk24, right24 := hg24, at24 := ha24 }

variable {p : Program} {l : Launch} {e : Env} {R : Room} {s : State} {m : MethodId} {args : Array Value} {below : List Frame} {meth : Method} {c : Code} {T T' : State} {locs L : List Loc} {cells slots cells' slots' : Nat} {Z : State} {a0 : Array Value} {h : Heap} {a : Addr} {sl : Nat}
set_option maxHeartbeats 4000000

theorem own_bs0 (a : Addr) : ∀ x ∈ ([] : List Loc), x.base = a := fun _ h => nomatch h
theorem own_bsS (X : Stand p l e R s m args below meth c T (locs ++ [⟨a, sl⟩]) cells slots) (N : ∀ x ∈ locs, x.base = a) : ∀ x ∈ locs ++ [⟨a, sl⟩], x.base = a := fun x hx => (List.mem_append.mp hx).elim (N x) fun q => by rw [List.mem_singleton.mp q]
theorem own_kp (hZ : Z.Warmed39 s.vm) (X : Stand p l e R s m args below meth c T locs 0 slots) (X' : Stand p l e R s m args below meth c T' (locs ++ L) cells' slots') (hb : ∀ x ∈ locs, x.base = a) (hL : ∀ x ∈ L, Six s a x) {C C' : Cell} (q : T.heap[a]? = some C) (q' : T'.heap[a]? = some C') (hS : ∀ i, (∀ x ∈ L, x.slot ≠ i) → C'.slots[i]? = C.slots[i]?) : Kp Z T.heap T'.heap a := by
  have hsz : T.heap.size ≤ s.heap.size := by have := X.heapSize; omega
  have k1 : ∀ y cy, s.heap[y]? = some cy → ∃ c', T.heap[y]? = some c' ∧ c' = { cy with slots := c'.slots } ∧ c'.slots.size = cy.slots.size ∧ ∀ i, (⟨y, i⟩ : Loc) ∉ locs → c'.slots[i]? = cy.slots[i]? := X.same.2.2.2.2.2
  have k2 : ∀ y cy, s.heap[y]? = some cy → ∃ c', T'.heap[y]? = some c' ∧ c' = { cy with slots := c'.slots } ∧ c'.slots.size = cy.slots.size ∧ ∀ i, (⟨y, i⟩ : Loc) ∉ locs ++ L → c'.slots[i]? = cy.slots[i]? := X'.same.2.2.2.2.2
  have hsz' : s.heap.size ≤ T'.heap.size := X'.same.2.1
  refine ⟨Nat.le_trans hsz hsz', fun y cy hy => ?_⟩
  have hlt : y < s.heap.size := Nat.lt_of_lt_of_le (Array.getElem?_eq_some_iff.mp hy).1 hsz
  obtain ⟨c1, p1, p2, p3, p4⟩ := k1 y _ (Array.getElem?_eq_getElem hlt)
  obtain ⟨c2, r1, r2, r3, r4⟩ := k2 y _ (Array.getElem?_eq_getElem hlt)
  obtain rfl : cy = c1 := Option.some.inj (hy.symm.trans p1)
  have e1 : c2 = { cy with slots := c2.slots } := r2.trans (by rw [p2])
  have hs : y ≠ a → ∀ i, c2.slots[i]? = cy.slots[i]? := fun hne i =>
    have n1 : (⟨y, i⟩ : Loc) ∉ locs := fun hm => hne (hb _ hm)
    (r4 i (fun hm => (List.mem_append.mp hm).elim n1 (fun q3 => hne (Six.base (hL _ q3))))).trans (p4 i n1).symm
  refine ⟨c2, r1, e1, r3.trans p3.symm, fun hne => ?_, fun i hi => ?_⟩
  · have e2 : c2.slots = cy.slots := Array.ext_getElem? (hs hne)
    rw [e1, e2]
  · by_cases hya : y = a
    · subst hya
      obtain rfl : cy = C := Option.some.inj (hy.symm.trans q)
      obtain rfl : c2 = C' := Option.some.inj (r1.symm.trans q')
      refine hS i fun x hx hxi => ?_
      obtain ⟨nd, h1, h2⟩ := six_slot hZ (hL x hx)
      exact hi nd h1 (by rw [← hxi, h2])
    · exact hs hya i
/-- the call of fillInStackTrace in Throwable's constructor -/
theorem own_fill (X : Stand p l e R s m args below meth c T locs 0 slots) (hx : p.tables.exec = Jvm.exec) (hl : l.stackTraces = true) (hZ : Z.Warmed39 s.vm) (hown : s.vm.findClass "java/lang/Throwable" = some m.cls) (hw : ∀ d ∈ tables_1, d.before a0 Z = true) (hT0 : ThS Z s.heap) (hTK : s.vm.MethodsKnown) (hBelow : s.vm.FramesKnown below) (eT : T.heap = h) {v0 : Value} (hv0 : v0.isRef = true) (E : Exa Z h a "com/example/hamal/hamal/api/ApiException") (N : Unt h a) (B : Fld Z h a "java/lang/Throwable" "backtrace" "Ljava/lang/Object;" .null) (S : Fld Z h a "java/lang/Throwable" "stackTrace" "[Ljava/lang/StackTraceElement;" v0) (U : Sta Z h "java/lang/Throwable" "UNASSIGNED_STACK" "[Ljava/lang/StackTraceElement;" v0) (hb : ∀ x ∈ locs, x.base = a)
    {g : JFrame} (hg : g.method = m) (hsize : g.locals.size = c.maxLocals) {rest : List Value} (hs : g.stack = .ref a :: rest) (hd : decode c.code g.pc = .ok (.invokevirtual 27, 3)) {W : Nat} (hW : 2 * g.monitorRoom + (rest.map fun v => v.category).sum ≤ W) (hf : 3 ≤ R.frames) (hlo : W + 42 ≤ R.locals) (hc : 1 ≤ R.cells) (hsl : slots + 2752 ≤ R.slots) :
    ∃ (T' : State) (h' : Heap), Stand p l e R s m args below meth c T' (locs ++ sixLocs Z a) 1 (slots + 2752) ∧ T'.heap = h' ∧ Kp Z h h' a ∧ Exa Z h' a "com/example/hamal/hamal/api/ApiException" ∧ Unt h' a ∧
      ∀ target, Steps p.tables e below (T'.setTop { g with pc := g.pc + 3, stack := .ref a :: rest }) target → Steps p.tables e below (T.setTop g) target := by
  subst eT
  have Wd : ∀ d ∈ own_fA, d.before args s = true := fun d hd => mvX hT0 hZ ((by decide +kernel : ∀ d ∈ own_fA, xOk d = true) d hd) (hw d ((by decide +kernel : ∀ d ∈ own_fA, d ∈ tables_1) d hd))
  have a' : ∀ x, x ∈ own_fA → x.holds args s none s [] = true := fun x hx => Wd x hx
  have htr : e.platform.stackTraces = true := by rw [X.admits.platform]; exact hl
  have howns : e.platform.frameOwnsMonitors = true := by rw [X.admits.platform]
  have hfin : e.platform.finalization = false := by rw [X.admits.platform]
  have hpl : e.platform.magicAccessors = ({} : Platform).magicAccessors := by rw [X.admits.platform]
  obtain ⟨Th, Z0, L, -, Y⟩ := own_links (args := args) howns hfin hpl (fun x hx => Wd x (List.mem_append_left _ hx))
  obtain ⟨cell, kc, c1, c2, c3, c4, c5⟩ := id E
  obtain ⟨cell', u1, u2, u3⟩ := id N
  obtain rfl : cell = cell' := Option.some.inj (c1.symm.trans u1)
  have hal : Z.vm.Alike s.vm := hZ.alike
  have hfound : s.vm.findClass "com/example/hamal/hamal/api/ApiException" = some cell.cls := by rw [hal.findClass]; exact c2
  obtain ⟨kX, hk, hek⟩ := hal.2.2 _ _ c3
  obtain ⟨t4, k2, i1, i2, i3, -⟩ := Cond.instantiable_spec (hw _ (List.mem_of_getElem? (i := 32) rfl))
  obtain rfl : cell.cls = t4 := Option.some.inj (c2.symm.trans i1)
  obtain rfl : kc = k2 := Option.some.inj (c3.symm.trans i2)
  have hord : kX.kind = .ordinary := by rw [hek]; exact i3
  have hsz : cell.slots.size = kX.instanceTypes.size := by rw [hek]; exact c5 i3
  have hsel0 : selectMethod e.platform s.vm cell.cls Th.fill0 = .method Th.fill0 := by
    obtain ⟨c2', r2, m2, q1, q2, q3, q4, -⟩ := Cond.selects_spec (a' (.selects "com/example/hamal/hamal/api/ApiException" tFill0 tFill0) (by decide +kernel))
    cases Option.some.inj (q1.symm.trans hfound)
    cases Option.some.inj (q2.symm.trans (State.methodFound?_of_named Y.fill0 (by decide)))
    cases Option.some.inj (q3.symm.trans Y.fill0)
    rw [Launch.admits_selectMethod X.admits]; exact q4
  obtain ⟨cfU, iU, kU, fU, aU, cellS, g1, g2, g3, g4, g5, g6, g7⟩ := id U
  obtain ⟨kU', gq, hekU⟩ := State.fieldFound?_setVm (s := Z) hal g1
  have e1 := (show s.fieldFound? "java/lang/Throwable" "UNASSIGNED_STACK" "[Ljava/lang/StackTraceElement;" = _ from gq).symm.trans Y.unassigned
  simp only [Option.some.injEq, Prod.mk.injEq] at e1
  obtain ⟨-, e2, -, e3⟩ := e1
  have hst : Th.aS = aU := Option.some.inj (L.statics.symm.trans (by rw [← e2, hekU]; exact g4))
  have hneS : Th.aS ≠ a := fun z => by
    rw [← hst, z] at g5
    cases c1.symm.trans g5
    rw [u2] at g6
    cases g6
  have hknS : cellS.vm ≠ .unknown := fun z => by rw [z] at g6; cases g6
  obtain ⟨cS1, cf, kf, iS, fS, s1, s2, s3, s4, s5, s6, s7⟩ := id S
  obtain rfl : cell = cS1 := Option.some.inj (c1.symm.trans s1)
  obtain ⟨kf', sq, -⟩ := State.fieldFound?_setVm (s := Z) hal s2
  have eS := (show s.fieldFound? "java/lang/Throwable" "stackTrace" "[Ljava/lang/StackTraceElement;" = _ from sq).symm.trans Y.stack
  simp only [Option.some.injEq, Prod.mk.injEq] at eS
  obtain ⟨-, -, -, eS⟩ := eS
  have hvS : cell.slots[Th.fStack.slot]? = some v0 := by rw [← eS]; exact s7
  obtain ⟨ci198, i198, fB, hk198, hg198, ha198, hsB, -, hnB, htB, hffB⟩ := Cond.ownField (t := .object "java/lang/Object") Y.found L.cls (by decide +kernel) (a' (.fieldLink tN 198 tN "backtrace" obD) (by decide +kernel)) (a' (.lays "com/example/hamal/hamal/api/ApiException" tN "backtrace" obD) (by decide +kernel)) e.platform hpl
  obtain ⟨cB1, cfB, kfB, iB, fB', b1, b2, b3, b4, b5, b6, b7⟩ := id B
  obtain rfl : cell = cB1 := Option.some.inj (c1.symm.trans b1)
  obtain ⟨kB', bq, -⟩ := State.fieldFound?_setVm (s := Z) hal b2
  have eB := (show s.fieldFound? "java/lang/Throwable" "backtrace" "Ljava/lang/Object;" = _ from bq).symm.trans hffB
  simp only [Option.some.injEq, Prod.mk.injEq] at eB
  obtain ⟨-, -, -, eB⟩ := eB
  have hvB : cell.slots[fB.slot]? = some .null := by rw [← eB]; exact b7
  obtain ⟨cD1, kD1, cD, kD, iD, fD, -, -, hffD, hstD, -, -, -, -⟩ := Cond.lays_spec (a' (.lays "com/example/hamal/hamal/api/ApiException" tN "depth" "I") (by decide +kernel))
  cases Option.some.inj ((Cond.lays_declared (a' (.lays "com/example/hamal/hamal/api/ApiException" tN "depth" "I") (by decide +kernel)) hffD).symm.trans Y.found)
  obtain ⟨hkD, hatD⟩ := State.fieldFound?_spec hffD
  cases Option.some.inj (hkD.symm.trans L.cls)
  obtain ⟨hnD, htD⟩ := State.fieldFound?_type hffD (t := .int) (by decide +kernel)
  have hfb := Cond.soleField_find Y.found L.cls (a' (.soleField tN "backtrace") (by decide +kernel)) ha198 hnB hsB
  have hfd := Cond.soleField_find Y.found L.cls (a' (.soleField tN "depth") (by decide +kernel)) hatD hnD hstD
  obtain ⟨comp, cO, kO, -, -, hkO, hkindO, hO⟩ := Cond.arrayOver_spec (Wd (.arrayOver (.object "java/lang/Object")) (by decide +kernel))
  obtain ⟨tyS, -⟩ := Cond.laysAt hfound hk Y.stack (a' (.lays "com/example/hamal/hamal/api/ApiException" tN "stackTrace" steD) (by decide +kernel))
  obtain ⟨tyB, -⟩ := Cond.laysAt hfound hk hffB (a' (.lays "com/example/hamal/hamal/api/ApiException" tN "backtrace" obD) (by decide +kernel))
  obtain ⟨tyD, -⟩ := Cond.laysAt hfound hk hffD (a' (.lays "com/example/hamal/hamal/api/ApiException" tN "depth" "I") (by decide +kernel))
  have tk : ∀ {f : Field} {v : Value}, kX.instanceTypes[f.slot]? = some f.type → fits f.type v = true → Jvm.Takes s cell f v := fun {f v} h1 h2 => by
    obtain ⟨q1, q2⟩ := Takes.of_laid (v := v) hk hord h1 h2
    exact ⟨by rw [hsz]; simpa using q1, by rw [u2]; exact q2⟩
  have fS' : fits Th.fStack.type v0 = true := by rw [Y.stackType]; exact fits_refV_array _ ⟨v0, hv0⟩
  have hSE := Wd (.selects "com/example/hamal/hamal/api/ApiException" tFill tFill) (by decide +kernel)
  obtain ⟨v6, vm6, ⟨T6, L6, c6, n6⟩, hW6, X6, ⟨hv6, C6, n, hn, hD6, q1, q2, q3, q4, hL6, hc6, hn6'⟩, come⟩ := X.virtualBack hx (own := tN) (C := "com/example/hamal/hamal/api/ApiException") (index := 27) (y := tFill) (z := tFill) hown (Wd (.methodLink tN 27 tFill) (by decide +kernel)) (Wd (.declares tFill) (by decide +kernel)) (notFace_of_selects hSE) hSE (Wd (.instanceMethod tFill) (by decide +kernel)) (by decide)
    (fillPaysAny (l := l) (W := W) hx htr Th L Y.fill (u0 := ⟨v0, hv0⟩) (self := a) (cell := cell) (cellS := cellS) (fun _ => by rw [u2]; simp) (by rw [u2]; simp) (by rw [u3]) (by rw [u3]) hvS hsel0 hneS hknS (by rw [← e3]; exact g7) (tk tyS fS')
      ⟨{ ci198 := ci198, i198 := i198, fBack := fB }, ⟨hk198, hg198, ha198, hsB⟩, hvB⟩ hTK hBelow Y.found hO hkO hkindO hfb hfd
      (fun x => tk tyB (by rw [htB]; rfl)) (fun x => tk tyD (by rw [htD]; rfl)) (by omega) hlo)
    (b := a) (cB := cell.cls) hfound ⟨cell, c1, rfl, by rw [u2]; rfl⟩ (g := g) hg hsize (Steps.refl _) (argsL := []) (rest := rest)
    (fun sig h => by rw [show parseMethodDescriptor tFill.desc = some ⟨[], some (.object tN)⟩ from by decide +kernel] at h; rw [← Option.some.inj h]; rfl) hs hW hd
    (fun vmx hWx => ⟨rfl, by show 0 + 1 ≤ R.cells; omega, hsl, c1, by rw [hst]; exact g5⟩)
  dsimp only [Pt.U, Pt.locs, Pt.cells, Pt.slots] at X6 hD6 hL6 hc6 hn6' come
  subst hv6 hL6 hc6 hn6'
  have hL : ∀ x ∈ ([⟨a, fB.slot⟩, ⟨a, fD.slot⟩, ⟨a, Th.fStack.slot⟩] : List Loc), Six s a x := fun x hx => by
    simp only [List.mem_cons, List.not_mem_nil, or_false] at hx
    rcases hx with rfl | rfl | rfl
    · exact ⟨("backtrace", obD), fB, by simp [sixNames], ⟨_, _, _, hffB⟩, rfl⟩
    · exact ⟨("depth", "I"), fD, by simp [sixNames], ⟨_, _, _, hffD⟩, rfl⟩
    · exact ⟨("stackTrace", steD), Th.fStack, by simp [sixNames], ⟨_, _, _, Y.stack⟩, rfl⟩
  have K := own_kp hZ X X6 hb hL c1 hD6 (fun i hi => q4 i (Ne.symm (hi ⟨a, fB.slot⟩ (by simp))) (Ne.symm (hi ⟨a, fD.slot⟩ (by simp))) (Ne.symm (hi ⟨a, Th.fStack.slot⟩ (by simp))))
  exact ⟨T6, T6.heap, (wider X6 hZ hL).more (Nat.le_refl _) (Nat.add_le_add_left hn _), rfl, K, Exa.kp K E, Unt.kp K N, fun target q => come.trans q⟩

end OwnFill

theorem own_mk {s : State} (h : Jvm.D.tablesKnown s = true) : s.vm.MethodsKnown := by
  intro m x hm
  unfold Vm.method? at hm
  cases hk : s.vm.classes[m.cls]? with
  | none => simp [hk] at hm
  | some k =>
    simp only [hk, Option.bind_some] at hm
    refine ⟨k, hk, fun cf hcf => ?_⟩
    have h1 := (Array.all_eq_true_iff_forall_mem.mp h) k (Array.mem_of_getElem? hk)
    simp only [hcf, beq_iff_eq] at h1
    have hlt : m.idx < k.methods.size := (Array.getElem?_eq_some_iff.mp hm).1
    rw [h1] at hlt
    simp [hlt]
theorem own_km {vm : Vm} {m : MethodId} (h : Jvm.D.methodKnown vm m = true) : vm.knowsMethod m := by
  unfold Jvm.D.methodKnown at h
  cases hk : vm.classes[m.cls]? with
  | none => simp [hk] at h
  | some k =>
    refine ⟨k, hk, fun cf hcf => ?_⟩
    simpa [hk, hcf] using h
theorem own_fk {s : State} {m : MethodId} {args : Array Value} {below : List Frame} (h : Jvm.D.framesKnown s = true) (hf : s.frames = .invoking m args :: below) : s.vm.FramesKnown below := by
  intro y hy m' hm'
  have h0 : s.frames.all (fun f => match f with | Frame.java g => Jvm.D.methodKnown s.vm g.method | Frame.native n => Jvm.D.methodKnown s.vm n.method | _ => true) = true := h
  rw [hf] at h0
  have h1 := (List.all_eq_true.mp h0) y (List.mem_cons_of_mem _ hy)
  cases y with
  | java g => cases hm'; exact own_km h1
  | native n => cases hm'; exact own_km h1
  | _ => cases hm'
theorem own_tr {l : Launch} (h : l.flags = flags0) : l.stackTraces = true := by
  have e : l.stackTraces = !l.flags.contains noTraceFlag := rfl
  rw [e, h]; decide

theorem own_pn0 : plainName "java/lang/Number" = true := by first | (simp [plainName, overriddenIn]; done) | decide +kernel
theorem own_d_jdk_18_m1_0 : decode jdk_18_method_1_code 0 = .ok (.aload_n 0, 1) := by decide +kernel
theorem own_d_jdk_18_m1_1 : decode jdk_18_method_1_code 1 = .ok (.invokespecial 1, 3) := by decide +kernel
theorem own_d_jdk_18_m1_4 : decode jdk_18_method_1_code 4 = .ok (.return_, 1) := by decide +kernel
theorem own_pn1 : plainName "java/lang/Integer" = true := by first | (simp [plainName, overriddenIn]; done) | decide +kernel
theorem own_d_jdk_33_m23_0 : decode jdk_33_method_23_code 0 = .ok (.aload_n 0, 1) := by decide +kernel
theorem own_pd0 : parseMethodDescriptor "()V" = some ⟨[], none⟩ := by decide +kernel
theorem own_d_jdk_33_m23_1 : decode jdk_33_method_23_code 1 = .ok (.invokespecial 202, 3) := by decide +kernel
theorem own_d_jdk_33_m23_4 : decode jdk_33_method_23_code 4 = .ok (.aload_n 0, 1) := by decide +kernel
theorem own_d_jdk_33_m23_5 : decode jdk_33_method_23_code 5 = .ok (.iload_n 1, 1) := by decide +kernel
theorem own_d_jdk_33_m23_6 : decode jdk_33_method_23_code 6 = .ok (.putfield 205, 3) := by decide +kernel
theorem own_d_jdk_33_m23_9 : decode jdk_33_method_23_code 9 = .ok (.return_, 1) := by decide +kernel
theorem own_d_jdk_33_m22_0 : decode jdk_33_method_22_code 0 = .ok (.iload_n 0, 1) := by decide +kernel
theorem own_d_jdk_33_m22_1 : decode jdk_33_method_22_code 1 = .ok (.bipush (-128), 2) := by decide +kernel
theorem own_d_jdk_33_m22_3 : decode jdk_33_method_22_code 3 = .ok (.if_icmp .lt 20, 3) := by decide +kernel
theorem own_d_jdk_33_m22_23 : decode jdk_33_method_22_code 23 = .ok (.new 1, 3) := by decide +kernel
theorem own_d_jdk_33_m22_26 : decode jdk_33_method_22_code 26 = .ok (.dup, 1) := by decide +kernel
theorem own_d_jdk_33_m22_27 : decode jdk_33_method_22_code 27 = .ok (.iload_n 0, 1) := by decide +kernel
theorem own_pd1 : parseMethodDescriptor "(I)V" = some ⟨[.int], none⟩ := by decide +kernel
theorem own_d_jdk_33_m22_28 : decode jdk_33_method_22_code 28 = .ok (.invokespecial 199, 3) := by decide +kernel
theorem own_d_jdk_33_m22_31 : decode jdk_33_method_22_code 31 = .ok (.areturn, 1) := by decide +kernel
theorem own_d_jdk_33_m22_6 : decode jdk_33_method_22_code 6 = .ok (.iload_n 0, 1) := by decide +kernel
theorem own_d_jdk_33_m22_7 : decode jdk_33_method_22_code 7 = .ok (.getstatic 191, 3) := by decide +kernel
theorem own_d_jdk_33_m22_10 : decode jdk_33_method_22_code 10 = .ok (.if_icmp .gt 13, 3) := by decide +kernel
theorem own_d_jdk_33_m22_13 : decode jdk_33_method_22_code 13 = .ok (.getstatic 195, 3) := by decide +kernel
theorem own_d_jdk_33_m22_16 : decode jdk_33_method_22_code 16 = .ok (.iload_n 0, 1) := by decide +kernel
theorem own_d_jdk_33_m22_17 : decode jdk_33_method_22_code 17 = .ok (.sipush 128, 3) := by decide +kernel
theorem own_d_jdk_33_m22_20 : decode jdk_33_method_22_code 20 = .ok (.iadd, 1) := by decide +kernel
theorem own_d_jdk_33_m22_21 : decode jdk_33_method_22_code 21 = .ok (.aaload, 1) := by decide +kernel
theorem own_d_jdk_33_m22_22 : decode jdk_33_method_22_code 22 = .ok (.areturn, 1) := by decide +kernel
theorem own_pn2 : plainName "com/example/hamal/hamal/api/ApiExceptionRetryAfterSecondsPinLaw" = true := by first | (simp [plainName, overriddenIn]; done) | decide +kernel
theorem own_d_m2_0 : decode method_2_code 0 = .ok (.iload_n 0, 1) := by decide +kernel
theorem own_d_m2_1 : decode method_2_code 1 = .ok (.ldc 7, 2) := by decide +kernel
theorem own_d_m2_3 : decode method_2_code 3 = .ok (.iand, 1) := by decide +kernel
theorem own_d_m2_4 : decode method_2_code 4 = .ok (.bipush 9, 2) := by decide +kernel
theorem own_d_m2_6 : decode method_2_code 6 = .ok (.irem, 1) := by decide +kernel
theorem own_d_m2_7 : decode method_2_code 7 = .ok (.istore_n 1, 1) := by decide +kernel
theorem own_d_m2_8 : decode method_2_code 8 = .ok (.iload_n 1, 1) := by decide +kernel
theorem own_d_m2_9 : decode method_2_code 9 = .ok (.ifCond .ne 7, 3) := by decide +kernel
theorem own_d_m2_12 : decode method_2_code 12 = .ok (.getstatic 8, 3) := by decide +kernel
theorem own_d_m2_15 : decode method_2_code 15 = .ok (.areturn, 1) := by decide +kernel
theorem own_d_m2_16 : decode method_2_code 16 = .ok (.iload_n 1, 1) := by decide +kernel
theorem own_d_m2_17 : decode method_2_code 17 = .ok (.iconst 1, 1) := by decide +kernel
theorem own_d_m2_18 : decode method_2_code 18 = .ok (.if_icmp .ne 7, 3) := by decide +kernel
theorem own_d_m2_21 : decode method_2_code 21 = .ok (.getstatic 14, 3) := by decide +kernel
theorem own_d_m2_24 : decode method_2_code 24 = .ok (.areturn, 1) := by decide +kernel
theorem own_d_m2_25 : decode method_2_code 25 = .ok (.iload_n 1, 1) := by decide +kernel
theorem own_d_m2_26 : decode method_2_code 26 = .ok (.iconst 2, 1) := by decide +kernel
theorem own_d_m2_27 : decode method_2_code 27 = .ok (.if_icmp .ne 7, 3) := by decide +kernel
theorem own_d_m2_30 : decode method_2_code 30 = .ok (.getstatic 17, 3) := by decide +kernel
theorem own_d_m2_33 : decode method_2_code 33 = .ok (.areturn, 1) := by decide +kernel
theorem own_d_m2_34 : decode method_2_code 34 = .ok (.iload_n 1, 1) := by decide +kernel
theorem own_d_m2_35 : decode method_2_code 35 = .ok (.iconst 3, 1) := by decide +kernel
theorem own_d_m2_36 : decode method_2_code 36 = .ok (.if_icmp .ne 7, 3) := by decide +kernel
theorem own_d_m2_39 : decode method_2_code 39 = .ok (.getstatic 20, 3) := by decide +kernel
theorem own_d_m2_42 : decode method_2_code 42 = .ok (.areturn, 1) := by decide +kernel
theorem own_d_m2_43 : decode method_2_code 43 = .ok (.iload_n 1, 1) := by decide +kernel
theorem own_d_m2_44 : decode method_2_code 44 = .ok (.iconst 4, 1) := by decide +kernel
theorem own_d_m2_45 : decode method_2_code 45 = .ok (.if_icmp .ne 7, 3) := by decide +kernel
theorem own_d_m2_48 : decode method_2_code 48 = .ok (.getstatic 23, 3) := by decide +kernel
theorem own_d_m2_51 : decode method_2_code 51 = .ok (.areturn, 1) := by decide +kernel
theorem own_d_m2_52 : decode method_2_code 52 = .ok (.iload_n 1, 1) := by decide +kernel
theorem own_d_m2_53 : decode method_2_code 53 = .ok (.iconst 5, 1) := by decide +kernel
theorem own_d_m2_54 : decode method_2_code 54 = .ok (.if_icmp .ne 7, 3) := by decide +kernel
theorem own_d_m2_57 : decode method_2_code 57 = .ok (.getstatic 26, 3) := by decide +kernel
theorem own_d_m2_60 : decode method_2_code 60 = .ok (.areturn, 1) := by decide +kernel
theorem own_d_m2_61 : decode method_2_code 61 = .ok (.iload_n 1, 1) := by decide +kernel
theorem own_d_m2_62 : decode method_2_code 62 = .ok (.bipush 6, 2) := by decide +kernel
theorem own_d_m2_64 : decode method_2_code 64 = .ok (.if_icmp .ne 7, 3) := by decide +kernel
theorem own_d_m2_67 : decode method_2_code 67 = .ok (.getstatic 29, 3) := by decide +kernel
theorem own_d_m2_70 : decode method_2_code 70 = .ok (.areturn, 1) := by decide +kernel
theorem own_d_m2_71 : decode method_2_code 71 = .ok (.iload_n 1, 1) := by decide +kernel
theorem own_d_m2_72 : decode method_2_code 72 = .ok (.bipush 7, 2) := by decide +kernel
theorem own_d_m2_74 : decode method_2_code 74 = .ok (.if_icmp .ne 7, 3) := by decide +kernel
theorem own_d_m2_77 : decode method_2_code 77 = .ok (.getstatic 32, 3) := by decide +kernel
theorem own_d_m2_80 : decode method_2_code 80 = .ok (.areturn, 1) := by decide +kernel
theorem own_d_m2_81 : decode method_2_code 81 = .ok (.getstatic 35, 3) := by decide +kernel
theorem own_d_m2_84 : decode method_2_code 84 = .ok (.areturn, 1) := by decide +kernel
theorem own_pn3 : plainName "java/lang/Throwable" = true := by first | (simp [plainName, overriddenIn]; done) | decide +kernel
theorem own_d_jdk_78_m2_0 : decode jdk_78_method_2_code 0 = .ok (.aload_n 0, 1) := by decide +kernel
theorem own_d_jdk_78_m2_1 : decode jdk_78_method_2_code 1 = .ok (.invokespecial 1, 3) := by decide +kernel
theorem own_d_jdk_78_m2_4 : decode jdk_78_method_2_code 4 = .ok (.aload_n 0, 1) := by decide +kernel
theorem own_d_jdk_78_m2_5 : decode jdk_78_method_2_code 5 = .ok (.aload_n 0, 1) := by decide +kernel
theorem own_d_jdk_78_m2_6 : decode jdk_78_method_2_code 6 = .ok (.putfield 7, 3) := by decide +kernel
theorem own_d_jdk_78_m2_9 : decode jdk_78_method_2_code 9 = .ok (.aload_n 0, 1) := by decide +kernel
theorem own_d_jdk_78_m2_10 : decode jdk_78_method_2_code 10 = .ok (.getstatic 13, 3) := by decide +kernel
theorem own_d_jdk_78_m2_13 : decode jdk_78_method_2_code 13 = .ok (.putfield 17, 3) := by decide +kernel
theorem own_d_jdk_78_m2_16 : decode jdk_78_method_2_code 16 = .ok (.aload_n 0, 1) := by decide +kernel
theorem own_d_jdk_78_m2_17 : decode jdk_78_method_2_code 17 = .ok (.getstatic 20, 3) := by decide +kernel
theorem own_d_jdk_78_m2_20 : decode jdk_78_method_2_code 20 = .ok (.putfield 24, 3) := by decide +kernel
theorem own_d_jdk_78_m2_23 : decode jdk_78_method_2_code 23 = .ok (.aload_n 0, 1) := by decide +kernel
theorem own_d_jdk_78_m2_24 : decode jdk_78_method_2_code 24 = .ok (.invokevirtual 27, 3) := by decide +kernel
theorem own_d_jdk_78_m2_27 : decode jdk_78_method_2_code 27 = .ok (.pop, 1) := by decide +kernel
theorem own_d_jdk_78_m2_28 : decode jdk_78_method_2_code 28 = .ok (.aload_n 0, 1) := by decide +kernel
theorem own_d_jdk_78_m2_29 : decode jdk_78_method_2_code 29 = .ok (.aload_n 1, 1) := by decide +kernel
theorem own_d_jdk_78_m2_30 : decode jdk_78_method_2_code 30 = .ok (.putfield 31, 3) := by decide +kernel
theorem own_d_jdk_78_m2_33 : decode jdk_78_method_2_code 33 = .ok (.return_, 1) := by decide +kernel
theorem own_pn4 : plainName "java/lang/Exception" = true := by first | (simp [plainName, overriddenIn]; done) | decide +kernel
theorem own_d_jdk_59_m2_0 : decode jdk_59_method_2_code 0 = .ok (.aload_n 0, 1) := by decide +kernel
theorem own_d_jdk_59_m2_1 : decode jdk_59_method_2_code 1 = .ok (.aload_n 1, 1) := by decide +kernel
theorem own_pd2 : parseMethodDescriptor "(Ljava/lang/String;)V" = some ⟨[(.object "java/lang/String")], none⟩ := by decide +kernel
theorem own_d_jdk_59_m2_2 : decode jdk_59_method_2_code 2 = .ok (.invokespecial 7, 3) := by decide +kernel
theorem own_d_jdk_59_m2_5 : decode jdk_59_method_2_code 5 = .ok (.return_, 1) := by decide +kernel
theorem own_pn5 : plainName "java/lang/RuntimeException" = true := by first | (simp [plainName, overriddenIn]; done) | decide +kernel
theorem own_d_jdk_58_m2_0 : decode jdk_58_method_2_code 0 = .ok (.aload_n 0, 1) := by decide +kernel
theorem own_d_jdk_58_m2_1 : decode jdk_58_method_2_code 1 = .ok (.aload_n 1, 1) := by decide +kernel
theorem own_d_jdk_58_m2_2 : decode jdk_58_method_2_code 2 = .ok (.invokespecial 7, 3) := by decide +kernel
theorem own_d_jdk_58_m2_5 : decode jdk_58_method_2_code 5 = .ok (.return_, 1) := by decide +kernel
theorem own_pn6 : plainName "com/example/hamal/hamal/api/ApiException" = true := by first | (simp [plainName, overriddenIn]; done) | decide +kernel
theorem own_d_prog_5_m2_0 : decode prog_5_method_2_code 0 = .ok (.aload_n 0, 1) := by decide +kernel
theorem own_d_prog_5_m2_1 : decode prog_5_method_2_code 1 = .ok (.aload_n 2, 1) := by decide +kernel
theorem own_d_prog_5_m2_2 : decode prog_5_method_2_code 2 = .ok (.invokespecial 7, 3) := by decide +kernel
theorem own_d_prog_5_m2_5 : decode prog_5_method_2_code 5 = .ok (.aload_n 0, 1) := by decide +kernel
theorem own_d_prog_5_m2_6 : decode prog_5_method_2_code 6 = .ok (.aload_n 1, 1) := by decide +kernel
theorem own_d_prog_5_m2_7 : decode prog_5_method_2_code 7 = .ok (.putfield 12, 3) := by decide +kernel
theorem own_d_prog_5_m2_10 : decode prog_5_method_2_code 10 = .ok (.aload_n 0, 1) := by decide +kernel
theorem own_d_prog_5_m2_11 : decode prog_5_method_2_code 11 = .ok (.aload_n 3, 1) := by decide +kernel
theorem own_d_prog_5_m2_12 : decode prog_5_method_2_code 12 = .ok (.putfield 16, 3) := by decide +kernel
theorem own_d_prog_5_m2_15 : decode prog_5_method_2_code 15 = .ok (.return_, 1) := by decide +kernel
theorem own_d_prog_5_m1_0 : decode prog_5_method_1_code 0 = .ok (.aload_n 0, 1) := by decide +kernel
theorem own_d_prog_5_m1_1 : decode prog_5_method_1_code 1 = .ok (.aload_n 1, 1) := by decide +kernel
theorem own_d_prog_5_m1_2 : decode prog_5_method_1_code 2 = .ok (.aload_n 2, 1) := by decide +kernel
theorem own_d_prog_5_m1_3 : decode prog_5_method_1_code 3 = .ok (.aconst_null, 1) := by decide +kernel
theorem own_pd3 : parseMethodDescriptor "(Lcom/example/hamal/hamal/api/ErrorCode;Ljava/lang/String;Ljava/lang/Integer;)V" = some ⟨[(.object "com/example/hamal/hamal/api/ErrorCode"), (.object "java/lang/String"), (.object "java/lang/Integer")], none⟩ := by decide +kernel
theorem own_d_prog_5_m1_4 : decode prog_5_method_1_code 4 = .ok (.invokespecial 1, 3) := by decide +kernel
theorem own_d_prog_5_m1_7 : decode prog_5_method_1_code 7 = .ok (.return_, 1) := by decide +kernel
theorem own_d_prog_5_m7_0 : decode prog_5_method_7_code 0 = .ok (.new 2, 3) := by decide +kernel
theorem own_d_prog_5_m7_3 : decode prog_5_method_7_code 3 = .ok (.dup, 1) := by decide +kernel
theorem own_d_prog_5_m7_4 : decode prog_5_method_7_code 4 = .ok (.getstatic 49, 3) := by decide +kernel
theorem own_d_prog_5_m7_7 : decode prog_5_method_7_code 7 = .ok (.aload_n 0, 1) := by decide +kernel
theorem own_d_prog_5_m7_8 : decode prog_5_method_7_code 8 = .ok (.iload_n 1, 1) := by decide +kernel
theorem own_pd4 : parseMethodDescriptor "(I)Ljava/lang/Integer;" = some ⟨[.int], some (.object "java/lang/Integer")⟩ := by decide +kernel
theorem own_d_prog_5_m7_9 : decode prog_5_method_7_code 9 = .ok (.invokestatic 52, 3) := by decide +kernel
theorem own_d_prog_5_m7_12 : decode prog_5_method_7_code 12 = .ok (.invokespecial 1, 3) := by decide +kernel
theorem own_d_prog_5_m7_15 : decode prog_5_method_7_code 15 = .ok (.areturn, 1) := by decide +kernel
theorem own_pn7 : plainName "java/util/OptionalInt" = true := by first | (simp [plainName, overriddenIn]; done) | decide +kernel
theorem own_d_jdk_2649_m2_0 : decode jdk_2649_method_2_code 0 = .ok (.getstatic 17, 3) := by decide +kernel
theorem own_d_jdk_2649_m2_3 : decode jdk_2649_method_2_code 3 = .ok (.areturn, 1) := by decide +kernel
theorem own_d_jdk_33_m27_0 : decode jdk_33_method_27_code 0 = .ok (.aload_n 0, 1) := by decide +kernel
theorem own_d_jdk_33_m27_1 : decode jdk_33_method_27_code 1 = .ok (.getfield 205, 3) := by decide +kernel
theorem own_d_jdk_33_m27_4 : decode jdk_33_method_27_code 4 = .ok (.ireturn, 1) := by decide +kernel
theorem own_d_jdk_2649_m3_0 : decode jdk_2649_method_3_code 0 = .ok (.aload_n 0, 1) := by decide +kernel
theorem own_d_jdk_2649_m3_1 : decode jdk_2649_method_3_code 1 = .ok (.invokespecial 1, 3) := by decide +kernel
theorem own_d_jdk_2649_m3_4 : decode jdk_2649_method_3_code 4 = .ok (.aload_n 0, 1) := by decide +kernel
theorem own_d_jdk_2649_m3_5 : decode jdk_2649_method_3_code 5 = .ok (.iconst 1, 1) := by decide +kernel
theorem own_d_jdk_2649_m3_6 : decode jdk_2649_method_3_code 6 = .ok (.putfield 7, 3) := by decide +kernel
theorem own_d_jdk_2649_m3_9 : decode jdk_2649_method_3_code 9 = .ok (.aload_n 0, 1) := by decide +kernel
theorem own_d_jdk_2649_m3_10 : decode jdk_2649_method_3_code 10 = .ok (.iload_n 1, 1) := by decide +kernel
theorem own_d_jdk_2649_m3_11 : decode jdk_2649_method_3_code 11 = .ok (.putfield 13, 3) := by decide +kernel
theorem own_d_jdk_2649_m3_14 : decode jdk_2649_method_3_code 14 = .ok (.return_, 1) := by decide +kernel
theorem own_d_jdk_2649_m4_0 : decode jdk_2649_method_4_code 0 = .ok (.new 8, 3) := by decide +kernel
theorem own_d_jdk_2649_m4_3 : decode jdk_2649_method_4_code 3 = .ok (.dup, 1) := by decide +kernel
theorem own_d_jdk_2649_m4_4 : decode jdk_2649_method_4_code 4 = .ok (.iload_n 0, 1) := by decide +kernel
theorem own_d_jdk_2649_m4_5 : decode jdk_2649_method_4_code 5 = .ok (.invokespecial 21, 3) := by decide +kernel
theorem own_d_jdk_2649_m4_8 : decode jdk_2649_method_4_code 8 = .ok (.areturn, 1) := by decide +kernel
theorem own_d_prog_5_m6_0 : decode prog_5_method_6_code 0 = .ok (.aload_n 0, 1) := by decide +kernel
theorem own_d_prog_5_m6_1 : decode prog_5_method_6_code 1 = .ok (.getfield 16, 3) := by decide +kernel
theorem own_d_prog_5_m6_4 : decode prog_5_method_6_code 4 = .ok (.ifnonnull 9, 3) := by decide +kernel
theorem own_pd5 : parseMethodDescriptor "()Ljava/util/OptionalInt;" = some ⟨[], some (.object "java/util/OptionalInt")⟩ := by decide +kernel
theorem own_d_prog_5_m6_7 : decode prog_5_method_6_code 7 = .ok (.invokestatic 33, 3) := by decide +kernel
theorem own_d_prog_5_m6_10 : decode prog_5_method_6_code 10 = .ok (.goto 13, 3) := by decide +kernel
theorem own_d_prog_5_m6_23 : decode prog_5_method_6_code 23 = .ok (.areturn, 1) := by decide +kernel
theorem own_d_prog_5_m6_13 : decode prog_5_method_6_code 13 = .ok (.aload_n 0, 1) := by decide +kernel
theorem own_d_prog_5_m6_14 : decode prog_5_method_6_code 14 = .ok (.getfield 16, 3) := by decide +kernel
theorem own_pd6 : parseMethodDescriptor "()I" = some ⟨[], some .int⟩ := by decide +kernel
theorem own_d_prog_5_m6_17 : decode prog_5_method_6_code 17 = .ok (.invokevirtual 39, 3) := by decide +kernel
theorem own_pd7 : parseMethodDescriptor "(I)Ljava/util/OptionalInt;" = some ⟨[.int], some (.object "java/util/OptionalInt")⟩ := by decide +kernel
theorem own_d_prog_5_m6_20 : decode prog_5_method_6_code 20 = .ok (.invokestatic 45, 3) := by decide +kernel
theorem own_d_jdk_2649_m6_0 : decode jdk_2649_method_6_code 0 = .ok (.aload_n 0, 1) := by decide +kernel
theorem own_d_jdk_2649_m6_1 : decode jdk_2649_method_6_code 1 = .ok (.getfield 7, 3) := by decide +kernel
theorem own_d_jdk_2649_m6_4 : decode jdk_2649_method_6_code 4 = .ok (.ireturn, 1) := by decide +kernel
theorem own_d_jdk_2649_m5_0 : decode jdk_2649_method_5_code 0 = .ok (.aload_n 0, 1) := by decide +kernel
theorem own_d_jdk_2649_m5_1 : decode jdk_2649_method_5_code 1 = .ok (.getfield 7, 3) := by decide +kernel
theorem own_d_jdk_2649_m5_4 : decode jdk_2649_method_5_code 4 = .ok (.ifCond .ne 13, 3) := by decide +kernel
theorem own_d_jdk_2649_m5_17 : decode jdk_2649_method_5_code 17 = .ok (.aload_n 0, 1) := by decide +kernel
theorem own_d_jdk_2649_m5_18 : decode jdk_2649_method_5_code 18 = .ok (.getfield 13, 3) := by decide +kernel
theorem own_d_jdk_2649_m5_21 : decode jdk_2649_method_5_code 21 = .ok (.ireturn, 1) := by decide +kernel
theorem own_pd8 : parseMethodDescriptor "(I)Lcom/example/hamal/hamal/api/ErrorCode;" = some ⟨[.int], some (.object "com/example/hamal/hamal/api/ErrorCode")⟩ := by decide +kernel
theorem own_pd9 : parseMethodDescriptor "(Lcom/example/hamal/hamal/api/ErrorCode;Ljava/lang/String;)V" = some ⟨[(.object "com/example/hamal/hamal/api/ErrorCode"), (.object "java/lang/String")], none⟩ := by decide +kernel
theorem own_pd10 : parseMethodDescriptor "(Ljava/lang/String;I)Lcom/example/hamal/hamal/api/ApiException;" = some ⟨[(.object "java/lang/String"), .int], some (.object "com/example/hamal/hamal/api/ApiException")⟩ := by decide +kernel
theorem own_pd11 : parseMethodDescriptor "()Z" = some ⟨[], some .boolean⟩ := by decide +kernel
theorem own_pd12 : parseMethodDescriptor "([C)V" = some ⟨[(.array .char)], none⟩ := by decide +kernel
def own_Qnum (Z : State) (ot : Addr) (h0 : Heap) (n0 : Nat) (v : Option Value) (h : Heap) (L : List Loc) : Prop := (v = none ∧ Fr n0 L ∧ Keep h0 h [])
theorem own_ef_num (m : MethodId) (ot : Addr)  : entryFrame m #[(.ref ot)] 1 = mkF m 0 #[.val (.ref ot)] [] := by first | (simp [entryFrame, mkF, argsToLocals, Value.category]; done) | rfl
set_option maxRecDepth 65536 in
set_option maxHeartbeats 40000000 in
theorem own_rmnum (l : Launch) (Z : State) (a0 : Array Value) (hw : ∀ d ∈ tables_1, d.before a0 Z = true) (hst : own_St Z) (ws : List Jvm.Cond) (ot : Addr) (h0 : Heap) (n0 : Nat) (X00 : Old Z n0 h0)  :
    MetFree l (⟨"java/lang/Number", "<init>", "()V"⟩ : MethodName) (head1 (Jvm.Cond.code (⟨"java/lang/Number", "<init>", "()V"⟩ : MethodName) jdk_18_method_1_code 1 (Option.none : Option Jvm.ClassFile.FieldType) :: ws) ({ frames := 1, cells := 0, slots := 0, locals := 12 } : Room)) (fun a U => a = #[(.ref ot)] ∧ Z.Warmed39 U.vm ∧ U.heap = h0) (fun _ _ _ _ _ => True) (fun _ U o U' => ∃ v L, o = .returned v ∧ own_Qnum Z ot h0 n0 v U'.heap L ∧ FrameEnd U o U' L ({ frames := 1, cells := 0, slots := 0, locals := 12 } : Room).cells ({ frames := 1, cells := 0, slots := 0, locals := 12 } : Room).slots) := by
  refine MetFree.of_bodySF (plainFor_of_name own_pn0) hisR ?_
  intro p e s m args below meth c s₁ Bd hml0 hP hK
  obtain ⟨rfl, hZ, hh⟩ := hP
  have hx := Bd.exec
  have hby := Bd.bytes
  have hret := Bd.returns
  have hlk : meth.locks = false := BodyLoose.notSynchronized Bd
  have hml : c.maxLocals = 1 := hml0
  have hown : s.vm.findClass "java/lang/Number" = some m.cls := findClass_of_methodNamed Bd.named
  have hnm := (name_of_methodNamed Bd.named Bd.method).1
  have X0 : Stand p l e ({ frames := 1, cells := 0, slots := 0, locals := 12 } : Room) s m #[(.ref ot)] below meth c s₁ [] 0 0 := Stand.of_body Bd
  have e0 : s₁.heap = h0 := by rw [← hh, Bd.state]; rfl
  have N0 := Fr.nil n0
  have KK0 : Keep h0 h0 [] := Keep.refl h0 _
  refine own_start (own_Qnum Z ot h0 n0) ?_
  refine own_to (V := s₁.setTop (mkF m 0 #[.val (.ref ot)] [])) ?_ (fun t k => castTop (own_ef_num m ot ) k)
  obtain ⟨⟨G1, O2, P5⟩, ⟨G3, O4, rG3⟩, ⟨iC, iL, iO1, iO2, iA, iE⟩, ⟨ec0, ec1, ec2, ec3, ec4, ec5, ec6, ec7, ec8, so0, so1, so2, so3, so4, so5, so6, so7, so8⟩, ⟨oe, oeS, oeE, oeP⟩, ⟨uS, uP, oUS, ruS, oUP, ruP⟩, -⟩ := id hst
  refine own_to (V := s₁.setTop (mkF m 1 #[.val (.ref ot)] [(.ref ot)])) ?_ fun t k => (by
    refine XS.aloadN X0.here hx rfl (hb hby own_d_jdk_18_m1_0) rfl rfl ?_
    exact k)
  obtain ⟨T101, X101, e101, st101⟩ := initO X0 hx hZ hown (hw _ (List.mem_of_getElem? (i := 175) rfl)) (hw _ (List.mem_of_getElem? (i := 12) rfl)) (hw _ (List.mem_of_getElem? (i := 13) rfl)) e0 (g := (mkF m 1 #[.val (.ref ot)] [(.ref ot)])) rfl (by rw [hml]; rfl) rfl (hb hby own_d_jdk_18_m1_1) (by decide) (W := 0) (by show 2 * 0 + _ ≤ _; exact Nat.le_of_eq rfl) (by decide)
  refine own_to (V := T101.setTop (mkF m 4 #[.val (.ref ot)] [])) ?_ st101
  exact own_retV X101 hx hret hlk (hb hby own_d_jdk_18_m1_4) (by rw [e101]; exact (⟨rfl, N0, KK0⟩)) (by decide) (by decide)
def own_Qiini (Z : State) (ot : Addr) (wi : Int32) (h0 : Heap) (n0 : Nat) (v : Option Value) (h : Heap) (L : List Loc) : Prop := (v = none ∧ Fr n0 L ∧ Keep h0 h [ot] ∧ (Fld Z h ot "java/lang/Integer" "value" "I" (.int wi)))
theorem own_ef_iini (m : MethodId) (ot : Addr) (wi : Int32)  : entryFrame m #[(.ref ot), (.int wi)] 2 = mkF m 0 #[.val (.ref ot), .val (.int wi)] [] := by first | (simp [entryFrame, mkF, argsToLocals, Value.category]; done) | rfl
set_option maxRecDepth 65536 in
set_option maxHeartbeats 40000000 in
theorem own_rmiini (l : Launch) (Z : State) (a0 : Array Value) (hw : ∀ d ∈ tables_1, d.before a0 Z = true) (hst : own_St Z) (ws : List Jvm.Cond) (ot : Addr) (wi : Int32) (h0 : Heap) (n0 : Nat) (X00 : Old Z n0 h0) (hE : Exa Z h0 ot "java/lang/Integer") (hF : Fld Z h0 ot "java/lang/Integer" "value" "I" (.int (0 : Int32))) (hG : n0 ≤ ot) :
    MetFree l (⟨"java/lang/Integer", "<init>", "(I)V"⟩ : MethodName) (head1 (Jvm.Cond.code (⟨"java/lang/Integer", "<init>", "(I)V"⟩ : MethodName) jdk_33_method_23_code 2 (Option.none : Option Jvm.ClassFile.FieldType) :: ws) ({ frames := 2, cells := 0, slots := 0, locals := 24 } : Room)) (fun a U => a = #[(.ref ot), (.int wi)] ∧ Z.Warmed39 U.vm ∧ U.heap = h0) (fun _ _ _ _ _ => True) (fun _ U o U' => ∃ v L, o = .returned v ∧ own_Qiini Z ot wi h0 n0 v U'.heap L ∧ FrameEnd U o U' L ({ frames := 2, cells := 0, slots := 0, locals := 24 } : Room).cells ({ frames := 2, cells := 0, slots := 0, locals := 24 } : Room).slots) := by
  refine MetFree.of_bodySF (plainFor_of_name own_pn1) hisR ?_
  intro p e s m args below meth c s₁ Bd hml0 hP hK
  obtain ⟨rfl, hZ, hh⟩ := hP
  have hx := Bd.exec
  have hby := Bd.bytes
  have hret := Bd.returns
  have hlk : meth.locks = false := BodyLoose.notSynchronized Bd
  have hml : c.maxLocals = 2 := hml0
  have hown : s.vm.findClass "java/lang/Integer" = some m.cls := findClass_of_methodNamed Bd.named
  have hnm := (name_of_methodNamed Bd.named Bd.method).1
  have X0 : Stand p l e ({ frames := 2, cells := 0, slots := 0, locals := 24 } : Room) s m #[(.ref ot), (.int wi)] below meth c s₁ [] 0 0 := Stand.of_body Bd
  have e0 : s₁.heap = h0 := by rw [← hh, Bd.state]; rfl
  have N0 := Fr.nil n0
  have KK0 : Keep h0 h0 [ot] := Keep.refl h0 _
  refine own_start (own_Qiini Z ot wi h0 n0) ?_
  refine own_to (V := s₁.setTop (mkF m 0 #[.val (.ref ot), .val (.int wi)] [])) ?_ (fun t k => castTop (own_ef_iini m ot wi ) k)
  obtain ⟨⟨G1, O2, P5⟩, ⟨G3, O4, rG3⟩, ⟨iC, iL, iO1, iO2, iA, iE⟩, ⟨ec0, ec1, ec2, ec3, ec4, ec5, ec6, ec7, ec8, so0, so1, so2, so3, so4, so5, so6, so7, so8⟩, ⟨oe, oeS, oeE, oeP⟩, ⟨uS, uP, oUS, ruS, oUP, ruP⟩, -⟩ := id hst
  refine own_to (V := s₁.setTop (mkF m 1 #[.val (.ref ot), .val (.int wi)] [(.ref ot)])) ?_ fun t k => (by
    refine XS.aloadN X0.here hx rfl (hb hby own_d_jdk_33_m23_0) rfl rfl ?_
    exact k)
  obtain ⟨_, _, ⟨T101, L101, k101, n101⟩, -, X101, ⟨Lc101, hQ101, l101, y101, z101⟩, st101⟩ := X0.specialBack hx (y := (⟨"java/lang/Number", "<init>", "()V"⟩ : MethodName)) rfl hown (mvT hZ (hw _ (List.mem_of_getElem? (i := 169) rfl))) (mvT hZ (hw _ (List.mem_of_getElem? (i := 170) rfl))) (mvT hZ (hw _ (List.mem_of_getElem? (i := 174) rfl))) (by decide) (backOf (W := 0) (own_rmnum l Z a0 hw hst [] ot h0 n0 X00 ) hZ (hw _ (List.mem_of_getElem? (i := 174) rfl)) (hw _ (List.mem_of_getElem? (i := 173) rfl)) (by decide) (by decide)) (g := (mkF m 1 #[.val (.ref ot), .val (.int wi)] [(.ref ot)])) rfl (by rw [hml]; rfl) (Steps.refl _) (a := ot) (argsL := []) (rest := []) (lenOf own_pd0 rfl) rfl (by show 2 * 0 + _ ≤ _; exact Nat.le_of_eq rfl) (hb hby own_d_jdk_33_m23_1) (fun _ _ => ⟨rfl, e0, (by decide : 0 + 0 ≤ _), (by decide : 0 + 0 ≤ _)⟩)
  dsimp only [Pt.U, Pt.locs, Pt.cells, Pt.slots] at X101 l101 y101 z101 st101 hQ101
  subst l101 y101 z101
  obtain ⟨hv101, N101q, K101⟩ := hQ101
  subst hv101
  obtain ⟨h101, e101⟩ : ∃ z, T101.heap = z := ⟨_, rfl⟩
  rw [e101] at K101
  have Xo101 : Old Z n0 h101 := X00.keep K101 all0
  have KK101 : Keep h0 h101 [ot] := KK0.trans K101 all0
  have N101 := Fr.app N0 N101q
  refine own_to (V := T101.setTop (mkF m 4 #[.val (.ref ot), .val (.int wi)] [])) ?_ (fun t k => st101.trans k)
  refine own_to (V := T101.setTop (mkF m 6 #[.val (.ref ot), .val (.int wi)] [(.int wi), (.ref ot)])) ?_ fun t k => (by
    refine XS.aloadN X101.here hx rfl (hb hby own_d_jdk_33_m23_4) rfl rfl ?_
    refine XS.iloadN X101.here hx rfl (hb hby own_d_jdk_33_m23_5) rfl ?_
    exact k)
  have F102 : Exa Z h101 ot "java/lang/Integer" := (hE.keep K101)
  have F103 : Fld Z h101 ot "java/lang/Integer" "value" "I" (.int (0 : Int32)) := (hF.keep K101 List.not_mem_nil)
  obtain ⟨T104, h104, X104, e104, W104, st104⟩ := putF X101 hx hZ hown (host := "") (Or.inl (hw _ (List.mem_of_getElem? (i := 133) rfl))) Via.refl e101 F103 F102 (Or.inr ⟨(hw _ (List.mem_of_getElem? (i := 134) rfl)), rfl, hnm⟩) (hw _ (List.mem_of_getElem? (i := 164) rfl)) (ty := .int) (by decide) rfl rfl (g := (mkF m 6 #[.val (.ref ot), .val (.int wi)] [(.int wi), (.ref ot)])) rfl rfl (hb hby own_d_jdk_33_m23_6)
  have Xo104 : Old Z n0 h104 := Xo101.wr W104 hG
  have KK104 : Keep h0 h104 [ot] := KK101.wr W104 (Or.inl (List.mem_of_getElem? (i := 0) rfl))
  have Fw104 : Fld Z h104 ot "java/lang/Integer" "value" "I" (.int wi) := F103.same W104
  have N104 := Fr.snoc X104 N101 hG
  refine own_to (V := T104.setTop (mkF m 9 #[.val (.ref ot), .val (.int wi)] [])) ?_ st104
  exact own_retV X104 hx hret hlk (hb hby own_d_jdk_33_m23_9) (by rw [e104]; exact (⟨rfl, N104, KK104, Fw104⟩)) (by decide) (by decide)
def own_Qival (Z : State) (wi : Int32) (h0 : Heap) (n0 : Nat) (v : Option Value) (h : Heap) (L : List Loc) : Prop := (∃ (oi : Addr), v = some (.ref oi) ∧ Fr n0 L ∧ Keep h0 h [] ∧ (Exa Z h oi "java/lang/Integer") ∧ (Fld Z h oi "java/lang/Integer" "value" "I" (.int wi)))
theorem own_ef_ival (m : MethodId) (wi : Int32)  : entryFrame m #[(.int wi)] 1 = mkF m 0 #[.val (.int wi)] [] := by first | (simp [entryFrame, mkF, argsToLocals, Value.category]; done) | rfl
set_option maxRecDepth 65536 in
set_option maxHeartbeats 40000000 in
theorem own_rmival (l : Launch) (Z : State) (a0 : Array Value) (hw : ∀ d ∈ tables_1, d.before a0 Z = true) (hst : own_St Z) (ws : List Jvm.Cond) (wi : Int32) (h0 : Heap) (n0 : Nat) (X00 : Old Z n0 h0)  :
    MetFree l (⟨"java/lang/Integer", "valueOf", "(I)Ljava/lang/Integer;"⟩ : MethodName) (head1 (Jvm.Cond.code (⟨"java/lang/Integer", "valueOf", "(I)Ljava/lang/Integer;"⟩ : MethodName) jdk_33_method_22_code 1 (Option.some (Jvm.ClassFile.FieldType.object "java/lang/Integer")) :: ws) ({ frames := 3, cells := 1, slots := 1, locals := 38 } : Room)) (fun a U => a = #[(.int wi)] ∧ Z.Warmed39 U.vm ∧ U.heap = h0) (fun _ _ _ _ _ => True) (fun _ U o U' => ∃ v L, o = .returned v ∧ own_Qival Z wi h0 n0 v U'.heap L ∧ FrameEnd U o U' L ({ frames := 3, cells := 1, slots := 1, locals := 38 } : Room).cells ({ frames := 3, cells := 1, slots := 1, locals := 38 } : Room).slots) := by
  refine MetFree.of_bodySF (plainFor_of_name own_pn1) hisR ?_
  intro p e s m args below meth c s₁ Bd hml0 hP hK
  obtain ⟨rfl, hZ, hh⟩ := hP
  have hx := Bd.exec
  have hby := Bd.bytes
  have hret := Bd.returns
  have hlk : meth.locks = false := BodyLoose.notSynchronized Bd
  have hml : c.maxLocals = 1 := hml0
  have hown : s.vm.findClass "java/lang/Integer" = some m.cls := findClass_of_methodNamed Bd.named
  have hnm := (name_of_methodNamed Bd.named Bd.method).1
  have X0 : Stand p l e ({ frames := 3, cells := 1, slots := 1, locals := 38 } : Room) s m #[(.int wi)] below meth c s₁ [] 0 0 := Stand.of_body Bd
  have e0 : s₁.heap = h0 := by rw [← hh, Bd.state]; rfl
  have N0 := Fr.nil n0
  have KK0 : Keep h0 h0 [] := Keep.refl h0 _
  refine own_start (own_Qival Z wi h0 n0) ?_
  refine own_to (V := s₁.setTop (mkF m 0 #[.val (.int wi)] [])) ?_ (fun t k => castTop (own_ef_ival m wi ) k)
  obtain ⟨⟨G1, O2, P5⟩, ⟨G3, O4, rG3⟩, ⟨iC, iL, iO1, iO2, iA, iE⟩, ⟨ec0, ec1, ec2, ec3, ec4, ec5, ec6, ec7, ec8, so0, so1, so2, so3, so4, so5, so6, so7, so8⟩, ⟨oe, oeS, oeE, oeP⟩, ⟨uS, uP, oUS, ruS, oUP, ruP⟩, -⟩ := id hst
  refine own_to (V := s₁.setTop (mkF m 3 #[.val (.int wi)] [(.int (-128 : Int32)), (.int wi)])) ?_ fun t k => (by
    refine XS.iloadN X0.here hx rfl (hb hby own_d_jdk_33_m22_0) rfl ?_
    refine XS.bipush X0.here hx rfl (hb hby own_d_jdk_33_m22_1) ?_
    exact k)
  by_cases hc3_101 : wi < (-128 : Int32)
  · skip
    refine own_to (V := s₁.setTop (mkF m 23 #[.val (.int wi)] [])) ?_ fun t k => (by
      refine XS.icmpYes X0.here hx rfl (pc0 := 3) (pc' := 23) rfl (hb hby own_d_jdk_33_m22_3) rfl (tlt (hc3_101 : wi < (-128 : Int32))).1 (by decide) (by decide) ?_
      exact k)
    obtain ⟨T102, h102, X102, e102, E102, A102, D102, U102, st102⟩ := newO X0 hx hZ hown (hw _ (List.mem_of_getElem? (i := 163) rfl)) (hw _ (List.mem_of_getElem? (i := 164) rfl)) (hw _ (List.mem_of_getElem? (i := 113) rfl)) e0 (g := (mkF m 23 #[.val (.int wi)] [])) rfl (hb hby own_d_jdk_33_m22_23) (by decide) (by decide)
    obtain ⟨b102, g102⟩ : ∃ z, z = h0.size := ⟨_, rfl⟩
    rw [← g102] at A102 D102 U102 st102
    have Xo102 : Old Z n0 h102 := X00.ext E102
    have KK102 : Keep h0 h102 [] := KK0.ext E102
    have ge_b102 : n0 ≤ b102 := Nat.le_trans (own_ole X00) (Nat.le_of_eq g102.symm)
    have sz_b102 : h0.size ≤ b102 := Nat.le_trans KK0.1 (Nat.le_of_eq g102.symm)
    have Fi102_134 : Fld Z h102 b102 "java/lang/Integer" "value" "I" (.int (0 : Int32)) := D102 (Or.inr (hw _ (List.mem_of_getElem? (i := 134) rfl))) (ty := .int) (by decide)
    refine own_to (V := T102.setTop (mkF m 26 #[.val (.int wi)] [(.ref b102)])) ?_ st102
    refine own_to (V := T102.setTop (mkF m 28 #[.val (.int wi)] [(.int wi), (.ref b102), (.ref b102)])) ?_ fun t k => (by
      refine XS.dup X102.here hx rfl (hb hby own_d_jdk_33_m22_26) rfl rfl ?_
      refine XS.iloadN X102.here hx rfl (hb hby own_d_jdk_33_m22_27) rfl ?_
      exact k)
    obtain ⟨_, _, ⟨T103, L103, k103, n103⟩, -, X103, ⟨Lc103, hQ103, l103, y103, z103⟩, st103⟩ := X102.specialBack hx (y := (⟨"java/lang/Integer", "<init>", "(I)V"⟩ : MethodName)) rfl hown (mvT hZ (hw _ (List.mem_of_getElem? (i := 165) rfl))) (mvT hZ (hw _ (List.mem_of_getElem? (i := 166) rfl))) (mvT hZ (hw _ (List.mem_of_getElem? (i := 168) rfl))) (by decide) (backOf (W := 1) (own_rmiini l Z a0 hw hst [] b102 wi h102 n0 Xo102 A102 Fi102_134 ge_b102) hZ (hw _ (List.mem_of_getElem? (i := 168) rfl)) (hw _ (List.mem_of_getElem? (i := 113) rfl)) (by decide) (by decide)) (g := (mkF m 28 #[.val (.int wi)] [(.int wi), (.ref b102), (.ref b102)])) rfl (by rw [hml]; rfl) (Steps.refl _) (a := b102) (argsL := [(.int wi)]) (rest := [(.ref b102)]) (lenOf own_pd1 rfl) rfl (by show 2 * 0 + _ ≤ _; exact Nat.le_of_eq rfl) (hb hby own_d_jdk_33_m22_28) (fun _ _ => ⟨rfl, e102, (by decide : 1 + 0 ≤ _), (by decide : 1 + 0 ≤ _)⟩)
    dsimp only [Pt.U, Pt.locs, Pt.cells, Pt.slots] at X103 l103 y103 z103 st103 hQ103
    subst l103 y103 z103
    obtain ⟨hv103, N103q, K103, g103_0⟩ := hQ103
    subst hv103
    obtain ⟨h103, e103⟩ : ∃ z, T103.heap = z := ⟨_, rfl⟩
    rw [e103] at K103 g103_0
    have Xo103 : Old Z n0 h103 := Xo102.keep K103 (allS ge_b102 all0)
    have KK103 : Keep h0 h103 [] := KK102.trans K103 (allS (Or.inr sz_b102) all0)
    have N103 := Fr.app N0 N103q
    refine own_to (V := T103.setTop (mkF m 31 #[.val (.int wi)] [(.ref b102)])) ?_ (fun t k => st103.trans k)
    have F104 : Exa Z h103 b102 "java/lang/Integer" := (A102.keep K103)
    exact own_retR X103 hx hret (by decide) rfl hlk (hb hby own_d_jdk_33_m22_31) (by rw [e103]; exact (⟨b102, rfl, N103, KK103, F104, g103_0⟩)) (by decide) (by decide)
  · skip
    refine own_to (V := s₁.setTop (mkF m 7 #[.val (.int wi)] [(.int wi)])) ?_ fun t k => (by
      refine XS.icmpNo X0.here hx rfl (hb hby own_d_jdk_33_m22_3) rfl (flt (hc3_101 : ¬ (wi < (-128 : Int32)))).1 ?_
      refine XS.iloadN X0.here hx rfl (hb hby own_d_jdk_33_m22_6) rfl ?_
      exact k)
    obtain ⟨T105, X105, e105, st105⟩ := getS2 X0 hx hZ hown (host := "") (Or.inl (hw _ (List.mem_of_getElem? (i := 115) rfl))) Via.refl e0 (iO1.ext X00.2) (g := (mkF m 7 #[.val (.int wi)] [(.int wi)])) rfl (hb hby own_d_jdk_33_m22_7)
    refine own_to (V := T105.setTop (mkF m 10 #[.val (.int wi)] [(.int (127 : Int32)), (.int wi)])) ?_ st105
    by_cases hc10_106 : (127 : Int32) < wi
    · skip
      refine own_to (V := T105.setTop (mkF m 23 #[.val (.int wi)] [])) ?_ fun t k => (by
        refine XS.icmpYes X105.here hx rfl (pc0 := 10) (pc' := 23) rfl (hb hby own_d_jdk_33_m22_10) rfl (tlt (hc10_106 : (127 : Int32) < wi)).2.2.1 (by decide) (by decide) ?_
        exact k)
      obtain ⟨T107, h107, X107, e107, E107, A107, D107, U107, st107⟩ := newO X105 hx hZ hown (hw _ (List.mem_of_getElem? (i := 163) rfl)) (hw _ (List.mem_of_getElem? (i := 164) rfl)) (hw _ (List.mem_of_getElem? (i := 113) rfl)) e105 (g := (mkF m 23 #[.val (.int wi)] [])) rfl (hb hby own_d_jdk_33_m22_23) (by decide) (by decide)
      obtain ⟨b107, g107⟩ : ∃ z, z = h0.size := ⟨_, rfl⟩
      rw [← g107] at A107 D107 U107 st107
      have Xo107 : Old Z n0 h107 := X00.ext E107
      have KK107 : Keep h0 h107 [] := KK0.ext E107
      have ge_b107 : n0 ≤ b107 := Nat.le_trans (own_ole X00) (Nat.le_of_eq g107.symm)
      have sz_b107 : h0.size ≤ b107 := Nat.le_trans KK0.1 (Nat.le_of_eq g107.symm)
      have Fi107_134 : Fld Z h107 b107 "java/lang/Integer" "value" "I" (.int (0 : Int32)) := D107 (Or.inr (hw _ (List.mem_of_getElem? (i := 134) rfl))) (ty := .int) (by decide)
      refine own_to (V := T107.setTop (mkF m 26 #[.val (.int wi)] [(.ref b107)])) ?_ st107
      refine own_to (V := T107.setTop (mkF m 28 #[.val (.int wi)] [(.int wi), (.ref b107), (.ref b107)])) ?_ fun t k => (by
        refine XS.dup X107.here hx rfl (hb hby own_d_jdk_33_m22_26) rfl rfl ?_
        refine XS.iloadN X107.here hx rfl (hb hby own_d_jdk_33_m22_27) rfl ?_
        exact k)
      obtain ⟨_, _, ⟨T108, L108, k108, n108⟩, -, X108, ⟨Lc108, hQ108, l108, y108, z108⟩, st108⟩ := X107.specialBack hx (y := (⟨"java/lang/Integer", "<init>", "(I)V"⟩ : MethodName)) rfl hown (mvT hZ (hw _ (List.mem_of_getElem? (i := 165) rfl))) (mvT hZ (hw _ (List.mem_of_getElem? (i := 166) rfl))) (mvT hZ (hw _ (List.mem_of_getElem? (i := 168) rfl))) (by decide) (backOf (W := 1) (own_rmiini l Z a0 hw hst [] b107 wi h107 n0 Xo107 A107 Fi107_134 ge_b107) hZ (hw _ (List.mem_of_getElem? (i := 168) rfl)) (hw _ (List.mem_of_getElem? (i := 113) rfl)) (by decide) (by decide)) (g := (mkF m 28 #[.val (.int wi)] [(.int wi), (.ref b107), (.ref b107)])) rfl (by rw [hml]; rfl) (Steps.refl _) (a := b107) (argsL := [(.int wi)]) (rest := [(.ref b107)]) (lenOf own_pd1 rfl) rfl (by show 2 * 0 + _ ≤ _; exact Nat.le_of_eq rfl) (hb hby own_d_jdk_33_m22_28) (fun _ _ => ⟨rfl, e107, (by decide : 1 + 0 ≤ _), (by decide : 1 + 0 ≤ _)⟩)
      dsimp only [Pt.U, Pt.locs, Pt.cells, Pt.slots] at X108 l108 y108 z108 st108 hQ108
      subst l108 y108 z108
      obtain ⟨hv108, N108q, K108, g108_0⟩ := hQ108
      subst hv108
      obtain ⟨h108, e108⟩ : ∃ z, T108.heap = z := ⟨_, rfl⟩
      rw [e108] at K108 g108_0
      have Xo108 : Old Z n0 h108 := Xo107.keep K108 (allS ge_b107 all0)
      have KK108 : Keep h0 h108 [] := KK107.trans K108 (allS (Or.inr sz_b107) all0)
      have N108 := Fr.app N0 N108q
      refine own_to (V := T108.setTop (mkF m 31 #[.val (.int wi)] [(.ref b107)])) ?_ (fun t k => st108.trans k)
      have F109 : Exa Z h108 b107 "java/lang/Integer" := (A107.keep K108)
      exact own_retR X108 hx hret (by decide) rfl hlk (hb hby own_d_jdk_33_m22_31) (by rw [e108]; exact (⟨b107, rfl, N108, KK108, F109, g108_0⟩)) (by decide) (by decide)
    · skip
      refine own_to (V := T105.setTop (mkF m 13 #[.val (.int wi)] [])) ?_ fun t k => (by
        refine XS.icmpNo X105.here hx rfl (hb hby own_d_jdk_33_m22_10) rfl (flt (hc10_106 : ¬ ((127 : Int32) < wi))).2.2.1 ?_
        exact k)
      obtain ⟨T110, X110, e110, st110⟩ := getS2 X105 hx hZ hown (host := "") (Or.inl (hw _ (List.mem_of_getElem? (i := 117) rfl))) Via.refl e105 (iO2.ext X00.2) (g := (mkF m 13 #[.val (.int wi)] [])) rfl (hb hby own_d_jdk_33_m22_13)
      refine own_to (V := T110.setTop (mkF m 16 #[.val (.int wi)] [(.ref iC)])) ?_ st110
      refine own_to (V := T110.setTop (mkF m 21 #[.val (.int wi)] [(.int (wi + (128 : Int32))), (.ref iC)])) ?_ fun t k => (by
        refine XS.iloadN X110.here hx rfl (hb hby own_d_jdk_33_m22_16) rfl ?_
        refine XS.sipush X110.here hx rfl (hb hby own_d_jdk_33_m22_17) ?_
        refine XS.iadd X110.here hx rfl (hb hby own_d_jdk_33_m22_20) rfl ?_
        exact k)
      obtain ⟨hin, ib, hat, iX, iF⟩ := iE wi hc3_101 hc10_106
      refine own_to (V := T110.setTop (mkF m 22 #[.val (.int wi)] [(.ref ib)])) ?_ (fun t k => X110.aaload hx (j := (wi + (128 : Int32))) (v := (.ref ib)) (by rw [e110]; exact (iA.ext X00.2).1) (State.isArrayOf_alike hZ.alike iA.2.1) rfl iA.2.2 hin hat (g := (mkF m 21 #[.val (.int wi)] [(.int (wi + (128 : Int32))), (.ref iC)])) rfl rfl (hb hby own_d_jdk_33_m22_21) t k)
      have iX' : Exa Z h0 ib "java/lang/Integer" := iX.ext X00.2
      have iF' : Fld Z h0 ib "java/lang/Integer" "value" "I" (.int wi) := iF.ext X00.2
      exact own_retR X110 hx hret (by decide) rfl hlk (hb hby own_d_jdk_33_m22_22) (by rw [e110]; exact (⟨ib, rfl, N0, KK0, iX', iF'⟩)) (by decide) (by decide)
def own_Qpick (Z : State) (vk : Int32) (h0 : Heap) (n0 : Nat) (v : Option Value) (h : Heap) (L : List Loc) : Prop := (∃ (oc : Addr), v = some (.ref oc) ∧ Fr n0 L ∧ Keep h0 h [])
theorem own_ef_pick (m : MethodId) (vk : Int32)  : entryFrame m #[(.int vk)] 2 = mkF m 0 #[.val (.int vk), .unset] [] := by first | (simp [entryFrame, mkF, argsToLocals, Value.category]; done) | rfl
set_option maxRecDepth 65536 in
set_option maxHeartbeats 40000000 in
theorem own_rmpick (l : Launch) (Z : State) (a0 : Array Value) (hw : ∀ d ∈ tables_1, d.before a0 Z = true) (hst : own_St Z) (ws : List Jvm.Cond) (vk : Int32) (h0 : Heap) (n0 : Nat) (X00 : Old Z n0 h0)  :
    MetFree l (⟨"com/example/hamal/hamal/api/ApiExceptionRetryAfterSecondsPinLaw", "pick", "(I)Lcom/example/hamal/hamal/api/ErrorCode;"⟩ : MethodName) (head1 (Jvm.Cond.code (⟨"com/example/hamal/hamal/api/ApiExceptionRetryAfterSecondsPinLaw", "pick", "(I)Lcom/example/hamal/hamal/api/ErrorCode;"⟩ : MethodName) method_2_code 2 (Option.some (Jvm.ClassFile.FieldType.object "com/example/hamal/hamal/api/ErrorCode")) :: ws) ({ frames := 0, cells := 0, slots := 0, locals := 0 } : Room)) (fun a U => a = #[(.int vk)] ∧ Z.Warmed39 U.vm ∧ U.heap = h0) (fun _ _ _ _ _ => True) (fun _ U o U' => ∃ v L, o = .returned v ∧ own_Qpick Z vk h0 n0 v U'.heap L ∧ FrameEnd U o U' L ({ frames := 0, cells := 0, slots := 0, locals := 0 } : Room).cells ({ frames := 0, cells := 0, slots := 0, locals := 0 } : Room).slots) := by
  refine MetFree.of_bodySF (plainFor_of_name own_pn2) hisR ?_
  intro p e s m args below meth c s₁ Bd hml0 hP hK
  obtain ⟨rfl, hZ, hh⟩ := hP
  have hx := Bd.exec
  have hby := Bd.bytes
  have hret := Bd.returns
  have hlk : meth.locks = false := BodyLoose.notSynchronized Bd
  have hml : c.maxLocals = 2 := hml0
  have hown : s.vm.findClass "com/example/hamal/hamal/api/ApiExceptionRetryAfterSecondsPinLaw" = some m.cls := findClass_of_methodNamed Bd.named
  have hnm := (name_of_methodNamed Bd.named Bd.method).1
  have X0 : Stand p l e ({ frames := 0, cells := 0, slots := 0, locals := 0 } : Room) s m #[(.int vk)] below meth c s₁ [] 0 0 := Stand.of_body Bd
  have e0 : s₁.heap = h0 := by rw [← hh, Bd.state]; rfl
  have N0 := Fr.nil n0
  have KK0 : Keep h0 h0 [] := Keep.refl h0 _
  refine own_start (own_Qpick Z vk h0 n0) ?_
  refine own_to (V := s₁.setTop (mkF m 0 #[.val (.int vk), .unset] [])) ?_ (fun t k => castTop (own_ef_pick m vk ) k)
  obtain ⟨⟨G1, O2, P5⟩, ⟨G3, O4, rG3⟩, ⟨iC, iL, iO1, iO2, iA, iE⟩, ⟨ec0, ec1, ec2, ec3, ec4, ec5, ec6, ec7, ec8, so0, so1, so2, so3, so4, so5, so6, so7, so8⟩, ⟨oe, oeS, oeE, oeP⟩, ⟨uS, uP, oUS, ruS, oUP, ruP⟩, -⟩ := id hst
  refine own_to (V := s₁.setTop (mkF m 1 #[.val (.int vk), .unset] [(.int vk)])) ?_ fun t k => (by
    refine XS.iloadN X0.here hx rfl (hb hby own_d_m2_0) rfl ?_
    exact k)
  refine own_to (V := s₁.setTop (mkF m 3 #[.val (.int vk), .unset] [(.int (2147483647 : Int32)), (.int vk)])) ?_ (fun t k => X0.ldcInt hx hown (mvT hZ (hw _ (List.mem_of_getElem? (i := 30) rfl))) (g := (mkF m 1 #[.val (.int vk), .unset] [(.int vk)])) rfl (hb hby own_d_m2_1) t k)
  obtain ⟨x101, hx101⟩ : ∃ z : Int32, z = ((vk &&& (2147483647 : Int32)) % (9 : Int32)) := ⟨_, rfl⟩
  refine own_to (V := s₁.setTop (mkF m 8 #[.val (.int vk), .val (.int x101)] [])) ?_ fun t k => (by
    first | rw [hx101] at k | skip
    refine XS.iand X0.here hx rfl (hb hby own_d_m2_3) rfl ?_
    refine XS.bipush X0.here hx rfl (hb hby own_d_m2_4) ?_
    refine own_irem X0.here hx rfl (hb hby own_d_m2_6) rfl (by decide) ?_
    refine XS.istoreN X0.here hx rfl (hb hby own_d_m2_7) rfl (l' := #[.val (.int vk), .val (.int ((vk &&& (2147483647 : Int32)) % (9 : Int32)))]) rfl ?_
    exact k)
  refine own_to (V := s₁.setTop (mkF m 9 #[.val (.int vk), .val (.int x101)] [(.int x101)])) ?_ fun t k => (by
    refine XS.iloadN X0.here hx rfl (hb hby own_d_m2_8) rfl ?_
    exact k)
  by_cases hc9_102 : x101 = (0 : Int32)
  · skip
    refine own_to (V := s₁.setTop (mkF m 12 #[.val (.int vk), .val (.int x101)] [])) ?_ fun t k => (by
      refine XS.ifNo X0.here hx rfl (hb hby own_d_m2_9) rfl ((if0 _ _).trans (teq (hc9_102 : x101 = (0 : Int32))).2) ?_
      exact k)
    obtain ⟨T103, X103, e103, st103⟩ := getS2 X0 hx hZ hown (host := "") (Or.inl (hw _ (List.mem_of_getElem? (i := 38) rfl))) Via.refl e0 (so0.ext X00.2) (g := (mkF m 12 #[.val (.int vk), .val (.int x101)] [])) rfl (hb hby own_d_m2_12)
    refine own_to (V := T103.setTop (mkF m 15 #[.val (.int vk), .val (.int x101)] [(.ref ec0)])) ?_ st103
    exact own_retR X103 hx hret (by decide) rfl hlk (hb hby own_d_m2_15) (by rw [e103]; exact (⟨ec0, rfl, N0, KK0⟩)) (by decide) (by decide)
  · skip
    refine own_to (V := s₁.setTop (mkF m 18 #[.val (.int vk), .val (.int x101)] [(.int (1 : Int32)), (.int x101)])) ?_ fun t k => (by
      refine XS.ifYes X0.here hx rfl (pc0 := 9) (pc' := 16) rfl (hb hby own_d_m2_9) rfl ((if0 _ _).trans (feq (hc9_102 : ¬ (x101 = (0 : Int32)))).2) (by decide) (by decide) ?_
      refine XS.iloadN X0.here hx rfl (hb hby own_d_m2_16) rfl ?_
      refine XS.iconst X0.here hx rfl (hb hby own_d_m2_17) ?_
      exact k)
    by_cases hc18_104 : x101 = (1 : Int32)
    · skip
      refine own_to (V := s₁.setTop (mkF m 21 #[.val (.int vk), .val (.int x101)] [])) ?_ fun t k => (by
        refine XS.icmpNo X0.here hx rfl (hb hby own_d_m2_18) rfl (teq (hc18_104 : x101 = (1 : Int32))).2 ?_
        exact k)
      obtain ⟨T105, X105, e105, st105⟩ := getS2 X0 hx hZ hown (host := "") (Or.inl (hw _ (List.mem_of_getElem? (i := 176) rfl))) Via.refl e0 (so1.ext X00.2) (g := (mkF m 21 #[.val (.int vk), .val (.int x101)] [])) rfl (hb hby own_d_m2_21)
      refine own_to (V := T105.setTop (mkF m 24 #[.val (.int vk), .val (.int x101)] [(.ref ec1)])) ?_ st105
      exact own_retR X105 hx hret (by decide) rfl hlk (hb hby own_d_m2_24) (by rw [e105]; exact (⟨ec1, rfl, N0, KK0⟩)) (by decide) (by decide)
    · skip
      refine own_to (V := s₁.setTop (mkF m 27 #[.val (.int vk), .val (.int x101)] [(.int (2 : Int32)), (.int x101)])) ?_ fun t k => (by
        refine XS.icmpYes X0.here hx rfl (pc0 := 18) (pc' := 25) rfl (hb hby own_d_m2_18) rfl (feq (hc18_104 : ¬ (x101 = (1 : Int32)))).2 (by decide) (by decide) ?_
        refine XS.iloadN X0.here hx rfl (hb hby own_d_m2_25) rfl ?_
        refine XS.iconst X0.here hx rfl (hb hby own_d_m2_26) ?_
        exact k)
      by_cases hc27_106 : x101 = (2 : Int32)
      · skip
        refine own_to (V := s₁.setTop (mkF m 30 #[.val (.int vk), .val (.int x101)] [])) ?_ fun t k => (by
          refine XS.icmpNo X0.here hx rfl (hb hby own_d_m2_27) rfl (teq (hc27_106 : x101 = (2 : Int32))).2 ?_
          exact k)
        obtain ⟨T107, X107, e107, st107⟩ := getS2 X0 hx hZ hown (host := "") (Or.inl (hw _ (List.mem_of_getElem? (i := 178) rfl))) Via.refl e0 (so2.ext X00.2) (g := (mkF m 30 #[.val (.int vk), .val (.int x101)] [])) rfl (hb hby own_d_m2_30)
        refine own_to (V := T107.setTop (mkF m 33 #[.val (.int vk), .val (.int x101)] [(.ref ec2)])) ?_ st107
        exact own_retR X107 hx hret (by decide) rfl hlk (hb hby own_d_m2_33) (by rw [e107]; exact (⟨ec2, rfl, N0, KK0⟩)) (by decide) (by decide)
      · skip
        refine own_to (V := s₁.setTop (mkF m 36 #[.val (.int vk), .val (.int x101)] [(.int (3 : Int32)), (.int x101)])) ?_ fun t k => (by
          refine XS.icmpYes X0.here hx rfl (pc0 := 27) (pc' := 34) rfl (hb hby own_d_m2_27) rfl (feq (hc27_106 : ¬ (x101 = (2 : Int32)))).2 (by decide) (by decide) ?_
          refine XS.iloadN X0.here hx rfl (hb hby own_d_m2_34) rfl ?_
          refine XS.iconst X0.here hx rfl (hb hby own_d_m2_35) ?_
          exact k)
        by_cases hc36_108 : x101 = (3 : Int32)
        · skip
          refine own_to (V := s₁.setTop (mkF m 39 #[.val (.int vk), .val (.int x101)] [])) ?_ fun t k => (by
            refine XS.icmpNo X0.here hx rfl (hb hby own_d_m2_36) rfl (teq (hc36_108 : x101 = (3 : Int32))).2 ?_
            exact k)
          obtain ⟨T109, X109, e109, st109⟩ := getS2 X0 hx hZ hown (host := "") (Or.inl (hw _ (List.mem_of_getElem? (i := 159) rfl))) Via.refl e0 (so3.ext X00.2) (g := (mkF m 39 #[.val (.int vk), .val (.int x101)] [])) rfl (hb hby own_d_m2_39)
          refine own_to (V := T109.setTop (mkF m 42 #[.val (.int vk), .val (.int x101)] [(.ref ec3)])) ?_ st109
          exact own_retR X109 hx hret (by decide) rfl hlk (hb hby own_d_m2_42) (by rw [e109]; exact (⟨ec3, rfl, N0, KK0⟩)) (by decide) (by decide)
        · skip
          refine own_to (V := s₁.setTop (mkF m 45 #[.val (.int vk), .val (.int x101)] [(.int (4 : Int32)), (.int x101)])) ?_ fun t k => (by
            refine XS.icmpYes X0.here hx rfl (pc0 := 36) (pc' := 43) rfl (hb hby own_d_m2_36) rfl (feq (hc36_108 : ¬ (x101 = (3 : Int32)))).2 (by decide) (by decide) ?_
            refine XS.iloadN X0.here hx rfl (hb hby own_d_m2_43) rfl ?_
            refine XS.iconst X0.here hx rfl (hb hby own_d_m2_44) ?_
            exact k)
          by_cases hc45_110 : x101 = (4 : Int32)
          · skip
            refine own_to (V := s₁.setTop (mkF m 48 #[.val (.int vk), .val (.int x101)] [])) ?_ fun t k => (by
              refine XS.icmpNo X0.here hx rfl (hb hby own_d_m2_45) rfl (teq (hc45_110 : x101 = (4 : Int32))).2 ?_
              exact k)
            obtain ⟨T111, X111, e111, st111⟩ := getS2 X0 hx hZ hown (host := "") (Or.inl (hw _ (List.mem_of_getElem? (i := 182) rfl))) Via.refl e0 (so4.ext X00.2) (g := (mkF m 48 #[.val (.int vk), .val (.int x101)] [])) rfl (hb hby own_d_m2_48)
            refine own_to (V := T111.setTop (mkF m 51 #[.val (.int vk), .val (.int x101)] [(.ref ec4)])) ?_ st111
            exact own_retR X111 hx hret (by decide) rfl hlk (hb hby own_d_m2_51) (by rw [e111]; exact (⟨ec4, rfl, N0, KK0⟩)) (by decide) (by decide)
          · skip
            refine own_to (V := s₁.setTop (mkF m 54 #[.val (.int vk), .val (.int x101)] [(.int (5 : Int32)), (.int x101)])) ?_ fun t k => (by
              refine XS.icmpYes X0.here hx rfl (pc0 := 45) (pc' := 52) rfl (hb hby own_d_m2_45) rfl (feq (hc45_110 : ¬ (x101 = (4 : Int32)))).2 (by decide) (by decide) ?_
              refine XS.iloadN X0.here hx rfl (hb hby own_d_m2_52) rfl ?_
              refine XS.iconst X0.here hx rfl (hb hby own_d_m2_53) ?_
              exact k)
            by_cases hc54_112 : x101 = (5 : Int32)
            · skip
              refine own_to (V := s₁.setTop (mkF m 57 #[.val (.int vk), .val (.int x101)] [])) ?_ fun t k => (by
                refine XS.icmpNo X0.here hx rfl (hb hby own_d_m2_54) rfl (teq (hc54_112 : x101 = (5 : Int32))).2 ?_
                exact k)
              obtain ⟨T113, X113, e113, st113⟩ := getS2 X0 hx hZ hown (host := "") (Or.inl (hw _ (List.mem_of_getElem? (i := 184) rfl))) Via.refl e0 (so5.ext X00.2) (g := (mkF m 57 #[.val (.int vk), .val (.int x101)] [])) rfl (hb hby own_d_m2_57)
              refine own_to (V := T113.setTop (mkF m 60 #[.val (.int vk), .val (.int x101)] [(.ref ec5)])) ?_ st113
              exact own_retR X113 hx hret (by decide) rfl hlk (hb hby own_d_m2_60) (by rw [e113]; exact (⟨ec5, rfl, N0, KK0⟩)) (by decide) (by decide)
            · skip
              refine own_to (V := s₁.setTop (mkF m 64 #[.val (.int vk), .val (.int x101)] [(.int (6 : Int32)), (.int x101)])) ?_ fun t k => (by
                refine XS.icmpYes X0.here hx rfl (pc0 := 54) (pc' := 61) rfl (hb hby own_d_m2_54) rfl (feq (hc54_112 : ¬ (x101 = (5 : Int32)))).2 (by decide) (by decide) ?_
                refine XS.iloadN X0.here hx rfl (hb hby own_d_m2_61) rfl ?_
                refine XS.bipush X0.here hx rfl (hb hby own_d_m2_62) ?_
                exact k)
              by_cases hc64_114 : x101 = (6 : Int32)
              · skip
                refine own_to (V := s₁.setTop (mkF m 67 #[.val (.int vk), .val (.int x101)] [])) ?_ fun t k => (by
                  refine XS.icmpNo X0.here hx rfl (hb hby own_d_m2_64) rfl (teq (hc64_114 : x101 = (6 : Int32))).2 ?_
                  exact k)
                obtain ⟨T115, X115, e115, st115⟩ := getS2 X0 hx hZ hown (host := "") (Or.inl (hw _ (List.mem_of_getElem? (i := 186) rfl))) Via.refl e0 (so6.ext X00.2) (g := (mkF m 67 #[.val (.int vk), .val (.int x101)] [])) rfl (hb hby own_d_m2_67)
                refine own_to (V := T115.setTop (mkF m 70 #[.val (.int vk), .val (.int x101)] [(.ref ec6)])) ?_ st115
                exact own_retR X115 hx hret (by decide) rfl hlk (hb hby own_d_m2_70) (by rw [e115]; exact (⟨ec6, rfl, N0, KK0⟩)) (by decide) (by decide)
              · skip
                refine own_to (V := s₁.setTop (mkF m 74 #[.val (.int vk), .val (.int x101)] [(.int (7 : Int32)), (.int x101)])) ?_ fun t k => (by
                  refine XS.icmpYes X0.here hx rfl (pc0 := 64) (pc' := 71) rfl (hb hby own_d_m2_64) rfl (feq (hc64_114 : ¬ (x101 = (6 : Int32)))).2 (by decide) (by decide) ?_
                  refine XS.iloadN X0.here hx rfl (hb hby own_d_m2_71) rfl ?_
                  refine XS.bipush X0.here hx rfl (hb hby own_d_m2_72) ?_
                  exact k)
                by_cases hc74_116 : x101 = (7 : Int32)
                · skip
                  refine own_to (V := s₁.setTop (mkF m 77 #[.val (.int vk), .val (.int x101)] [])) ?_ fun t k => (by
                    refine XS.icmpNo X0.here hx rfl (hb hby own_d_m2_74) rfl (teq (hc74_116 : x101 = (7 : Int32))).2 ?_
                    exact k)
                  obtain ⟨T117, X117, e117, st117⟩ := getS2 X0 hx hZ hown (host := "") (Or.inl (hw _ (List.mem_of_getElem? (i := 161) rfl))) Via.refl e0 (so7.ext X00.2) (g := (mkF m 77 #[.val (.int vk), .val (.int x101)] [])) rfl (hb hby own_d_m2_77)
                  refine own_to (V := T117.setTop (mkF m 80 #[.val (.int vk), .val (.int x101)] [(.ref ec7)])) ?_ st117
                  exact own_retR X117 hx hret (by decide) rfl hlk (hb hby own_d_m2_80) (by rw [e117]; exact (⟨ec7, rfl, N0, KK0⟩)) (by decide) (by decide)
                · skip
                  refine own_to (V := s₁.setTop (mkF m 81 #[.val (.int vk), .val (.int x101)] [])) ?_ fun t k => (by
                    refine XS.icmpYes X0.here hx rfl (pc0 := 74) (pc' := 81) rfl (hb hby own_d_m2_74) rfl (feq (hc74_116 : ¬ (x101 = (7 : Int32)))).2 (by decide) (by decide) ?_
                    exact k)
                  obtain ⟨T118, X118, e118, st118⟩ := getS2 X0 hx hZ hown (host := "") (Or.inl (hw _ (List.mem_of_getElem? (i := 180) rfl))) Via.refl e0 (so8.ext X00.2) (g := (mkF m 81 #[.val (.int vk), .val (.int x101)] [])) rfl (hb hby own_d_m2_81)
                  refine own_to (V := T118.setTop (mkF m 84 #[.val (.int vk), .val (.int x101)] [(.ref ec8)])) ?_ st118
                  exact own_retR X118 hx hret (by decide) rfl hlk (hb hby own_d_m2_84) (by rw [e118]; exact (⟨ec8, rfl, N0, KK0⟩)) (by decide) (by decide)
def own_Qthi (Z : State) (ot : Addr) (vs : Value) (h0 : Heap) (n0 : Nat) (v : Option Value) (h : Heap) (L : List Loc) : Prop := (v = none ∧ Fr n0 L ∧ Keep h0 h [ot] ∧ (Fld Z h ot "com/example/hamal/hamal/api/ApiException" "code" "Lcom/example/hamal/hamal/api/ErrorCode;" .null) ∧ (Fld Z h ot "com/example/hamal/hamal/api/ApiException" "retryAfterSeconds" "Ljava/lang/Integer;" .null))
theorem own_ef_thi (m : MethodId) (ot : Addr) (vs : Value) (r0 : vs.isRef = true) : entryFrame m #[(.ref ot), vs] 2 = mkF m 0 #[.val (.ref ot), .val vs] [] := by first | (rcases ref_cases r0 with rfl | ⟨_, rfl⟩; all_goals first | (simp [entryFrame, mkF, argsToLocals, Value.category]; done) | rfl)
set_option maxRecDepth 65536 in
set_option maxHeartbeats 40000000 in
theorem own_rmthi (l : Launch) (Z : State) (a0 : Array Value) (hw : ∀ d ∈ tables_1, d.before a0 Z = true) (hst : own_St Z) (htr : l.stackTraces = true) (ws : List Jvm.Cond) (ot : Addr) (vs : Value) (h0 : Heap) (n0 : Nat) (X00 : Old Z n0 h0) (rs : vs.isRef = true) (hE : Exa Z h0 ot "com/example/hamal/hamal/api/ApiException") (hU : Unt h0 ot) (hF0 : Fld Z h0 ot "java/lang/Throwable" "cause" "Ljava/lang/Throwable;" .null) (hF1 : Fld Z h0 ot "java/lang/Throwable" "stackTrace" "[Ljava/lang/StackTraceElement;" .null) (hF2 : Fld Z h0 ot "java/lang/Throwable" "suppressedExceptions" "Ljava/util/List;" .null) (hF3 : Fld Z h0 ot "java/lang/Throwable" "detailMessage" "Ljava/lang/String;" .null) (hF4 : Fld Z h0 ot "java/lang/Throwable" "backtrace" "Ljava/lang/Object;" .null) (hC : Fld Z h0 ot "com/example/hamal/hamal/api/ApiException" "code" "Lcom/example/hamal/hamal/api/ErrorCode;" .null) (hR : Fld Z h0 ot "com/example/hamal/hamal/api/ApiException" "retryAfterSeconds" "Ljava/lang/Integer;" .null) (hG : n0 ≤ ot) :
    MetFree l (⟨"java/lang/Throwable", "<init>", "(Ljava/lang/String;)V"⟩ : MethodName) (head1 (Jvm.Cond.code (⟨"java/lang/Throwable", "<init>", "(Ljava/lang/String;)V"⟩ : MethodName) jdk_78_method_2_code 2 (Option.none : Option Jvm.ClassFile.FieldType) :: ws) ({ frames := 3, cells := 1, slots := 2752, locals := 42 } : Room)) (fun a U => a = #[(.ref ot), vs] ∧ Z.Warmed39 U.vm ∧ U.heap = h0) (fun _ _ bl s _ => s.vm.MethodsKnown ∧ s.vm.FramesKnown bl) (fun _ U o U' => ∃ v L, o = .returned v ∧ own_Qthi Z ot vs h0 n0 v U'.heap L ∧ FrameEnd U o U' L ({ frames := 3, cells := 1, slots := 2752, locals := 42 } : Room).cells ({ frames := 3, cells := 1, slots := 2752, locals := 42 } : Room).slots) := by
  refine MetFree.of_bodySF (plainFor_of_name own_pn3) hisR ?_
  intro p e s m args below meth c s₁ Bd hml0 hP hK
  obtain ⟨rfl, hZ, hh⟩ := hP
  have hx := Bd.exec
  have hby := Bd.bytes
  have hret := Bd.returns
  have hlk : meth.locks = false := BodyLoose.notSynchronized Bd
  have hml : c.maxLocals = 2 := hml0
  have hown : s.vm.findClass "java/lang/Throwable" = some m.cls := findClass_of_methodNamed Bd.named
  have hnm := (name_of_methodNamed Bd.named Bd.method).1
  have X0 : Stand p l e ({ frames := 3, cells := 1, slots := 2752, locals := 42 } : Room) s m #[(.ref ot), vs] below meth c s₁ [] 0 0 := Stand.of_body Bd
  have e0 : s₁.heap = h0 := by rw [← hh, Bd.state]; rfl
  have N0 := Fr.nil n0
  have KK0 : Keep h0 h0 [ot] := Keep.refl h0 _
  refine own_start (own_Qthi Z ot vs h0 n0) ?_
  refine own_to (V := s₁.setTop (mkF m 0 #[.val (.ref ot), .val vs] [])) ?_ (fun t k => castTop (own_ef_thi m ot vs rs) k)
  obtain ⟨⟨G1, O2, P5⟩, ⟨G3, O4, rG3⟩, ⟨iC, iL, iO1, iO2, iA, iE⟩, ⟨ec0, ec1, ec2, ec3, ec4, ec5, ec6, ec7, ec8, so0, so1, so2, so3, so4, so5, so6, so7, so8⟩, ⟨oe, oeS, oeE, oeP⟩, ⟨uS, uP, oUS, ruS, oUP, ruP⟩, -⟩ := id hst
  refine own_to (V := s₁.setTop (mkF m 1 #[.val (.ref ot), .val vs] [(.ref ot)])) ?_ fun t k => (by
    refine XS.aloadN X0.here hx rfl (hb hby own_d_jdk_78_m2_0) rfl rfl ?_
    exact k)
  obtain ⟨T101, X101, e101, st101⟩ := initO X0 hx hZ hown (hw _ (List.mem_of_getElem? (i := 64) rfl)) (hw _ (List.mem_of_getElem? (i := 12) rfl)) (hw _ (List.mem_of_getElem? (i := 13) rfl)) e0 (g := (mkF m 1 #[.val (.ref ot), .val vs] [(.ref ot)])) rfl (by rw [hml]; rfl) rfl (hb hby own_d_jdk_78_m2_1) (by decide) (W := 0) (by show 2 * 0 + _ ≤ _; exact Nat.le_of_eq rfl) (by decide)
  refine own_to (V := T101.setTop (mkF m 4 #[.val (.ref ot), .val vs] [])) ?_ st101
  refine own_to (V := T101.setTop (mkF m 6 #[.val (.ref ot), .val vs] [(.ref ot), (.ref ot)])) ?_ fun t k => (by
    refine XS.aloadN X101.here hx rfl (hb hby own_d_jdk_78_m2_4) rfl rfl ?_
    refine XS.aloadN X101.here hx rfl (hb hby own_d_jdk_78_m2_5) rfl rfl ?_
    exact k)
  obtain ⟨T102, h102, X102, e102, W102, st102⟩ := putF X101 hx hZ hown (host := "") (Or.inl (hw _ (List.mem_of_getElem? (i := 65) rfl))) Via.refl e101 hF0 hE (Or.inl (hw _ (List.mem_of_getElem? (i := 66) rfl))) (hw _ (List.mem_of_getElem? (i := 32) rfl)) (ty := (.object "java/lang/Throwable")) (by decide) rfl rfl (g := (mkF m 6 #[.val (.ref ot), .val vs] [(.ref ot), (.ref ot)])) rfl rfl (hb hby own_d_jdk_78_m2_6)
  have Xo102 : Old Z n0 h102 := X00.wr W102 hG
  have KK102 : Keep h0 h102 [ot] := KK0.wr W102 (Or.inl (List.mem_of_getElem? (i := 0) rfl))
  have Fw102 : Fld Z h102 ot "java/lang/Throwable" "cause" "Ljava/lang/Throwable;" (.ref ot) := hF0.same W102
  have N102 := Fr.snoc X102 N0 hG
  have Bs102 := own_bsS X102 (own_bs0 ot)
  refine own_to (V := T102.setTop (mkF m 9 #[.val (.ref ot), .val vs] [])) ?_ st102
  refine own_to (V := T102.setTop (mkF m 10 #[.val (.ref ot), .val vs] [(.ref ot)])) ?_ fun t k => (by
    refine XS.aloadN X102.here hx rfl (hb hby own_d_jdk_78_m2_9) rfl rfl ?_
    exact k)
  obtain ⟨T103, X103, e103, st103⟩ := getS2 X102 hx hZ hown (host := "") (Or.inl (hw _ (List.mem_of_getElem? (i := 67) rfl))) Via.refl e102 (oUS.ext Xo102.2) (g := (mkF m 10 #[.val (.ref ot), .val vs] [(.ref ot)])) rfl (hb hby own_d_jdk_78_m2_10)
  refine own_to (V := T103.setTop (mkF m 13 #[.val (.ref ot), .val vs] [uS, (.ref ot)])) ?_ st103
  have F104 : Exa Z h102 ot "com/example/hamal/hamal/api/ApiException" := (hE.wr W102)
  have F105 : Fld Z h102 ot "java/lang/Throwable" "stackTrace" "[Ljava/lang/StackTraceElement;" .null := (hF1.other W102 (Or.inr (slot_ne (Or.inl (hw _ (List.mem_of_getElem? (i := 69) rfl))) (Or.inl (hw _ (List.mem_of_getElem? (i := 66) rfl))) (by decide) (t := (.array (.object "java/lang/StackTraceElement"))) (t' := (.object "java/lang/Throwable")) (by decide) (by decide))))
  obtain ⟨T106, h106, X106, e106, W106, st106⟩ := putF X103 hx hZ hown (host := "") (Or.inl (hw _ (List.mem_of_getElem? (i := 68) rfl))) Via.refl e103 F105 F104 (Or.inl (hw _ (List.mem_of_getElem? (i := 69) rfl))) (hw _ (List.mem_of_getElem? (i := 32) rfl)) (ty := (.array (.object "java/lang/StackTraceElement"))) (by decide) (own_narA ruS) (own_fitA ruS) (g := (mkF m 13 #[.val (.ref ot), .val vs] [uS, (.ref ot)])) rfl rfl (hb hby own_d_jdk_78_m2_13)
  have Xo106 : Old Z n0 h106 := Xo102.wr W106 hG
  have KK106 : Keep h0 h106 [ot] := KK102.wr W106 (Or.inl (List.mem_of_getElem? (i := 0) rfl))
  have Fw106 : Fld Z h106 ot "java/lang/Throwable" "stackTrace" "[Ljava/lang/StackTraceElement;" uS := F105.same W106
  have N106 := Fr.snoc X106 N102 hG
  have Bs106 := own_bsS X106 Bs102
  refine own_to (V := T106.setTop (mkF m 16 #[.val (.ref ot), .val vs] [])) ?_ st106
  refine own_to (V := T106.setTop (mkF m 17 #[.val (.ref ot), .val vs] [(.ref ot)])) ?_ fun t k => (by
    refine XS.aloadN X106.here hx rfl (hb hby own_d_jdk_78_m2_16) rfl rfl ?_
    exact k)
  obtain ⟨T107, X107, e107, st107⟩ := getS2 X106 hx hZ hown (host := "") (Or.inl (hw _ (List.mem_of_getElem? (i := 70) rfl))) Via.refl e106 (oUP.ext Xo106.2) (g := (mkF m 17 #[.val (.ref ot), .val vs] [(.ref ot)])) rfl (hb hby own_d_jdk_78_m2_17)
  refine own_to (V := T107.setTop (mkF m 20 #[.val (.ref ot), .val vs] [uP, (.ref ot)])) ?_ st107
  have F108 : Exa Z h106 ot "com/example/hamal/hamal/api/ApiException" := (F104.wr W106)
  have F109 : Fld Z h106 ot "java/lang/Throwable" "suppressedExceptions" "Ljava/util/List;" .null := ((hF2.other W102 (Or.inr (slot_ne (Or.inl (hw _ (List.mem_of_getElem? (i := 72) rfl))) (Or.inl (hw _ (List.mem_of_getElem? (i := 66) rfl))) (by decide) (t := (.object "java/util/List")) (t' := (.object "java/lang/Throwable")) (by decide) (by decide)))).other W106 (Or.inr (slot_ne (Or.inl (hw _ (List.mem_of_getElem? (i := 72) rfl))) (Or.inl (hw _ (List.mem_of_getElem? (i := 69) rfl))) (by decide) (t := (.object "java/util/List")) (t' := (.array (.object "java/lang/StackTraceElement"))) (by decide) (by decide))))
  obtain ⟨T110, h110, X110, e110, W110, st110⟩ := putF X107 hx hZ hown (host := "") (Or.inl (hw _ (List.mem_of_getElem? (i := 71) rfl))) Via.refl e107 F109 F108 (Or.inl (hw _ (List.mem_of_getElem? (i := 72) rfl))) (hw _ (List.mem_of_getElem? (i := 32) rfl)) (ty := (.object "java/util/List")) (by decide) (own_narR ruP) (own_fitR ruP) (g := (mkF m 20 #[.val (.ref ot), .val vs] [uP, (.ref ot)])) rfl rfl (hb hby own_d_jdk_78_m2_20)
  have Xo110 : Old Z n0 h110 := Xo106.wr W110 hG
  have KK110 : Keep h0 h110 [ot] := KK106.wr W110 (Or.inl (List.mem_of_getElem? (i := 0) rfl))
  have Fw110 : Fld Z h110 ot "java/lang/Throwable" "suppressedExceptions" "Ljava/util/List;" uP := F109.same W110
  have N110 := Fr.snoc X110 N106 hG
  have Bs110 := own_bsS X110 Bs106
  refine own_to (V := T110.setTop (mkF m 23 #[.val (.ref ot), .val vs] [])) ?_ st110
  refine own_to (V := T110.setTop (mkF m 24 #[.val (.ref ot), .val vs] [(.ref ot)])) ?_ fun t k => (by
    refine XS.aloadN X110.here hx rfl (hb hby own_d_jdk_78_m2_23) rfl rfl ?_
    exact k)
  have F112 : Fld Z h110 ot "com/example/hamal/hamal/api/ApiException" "code" "Lcom/example/hamal/hamal/api/ErrorCode;" .null := (((hC.other W102 (Or.inr (slot_ne (Or.inr (hw _ (List.mem_of_getElem? (i := 102) rfl))) (Or.inl (hw _ (List.mem_of_getElem? (i := 66) rfl))) (by decide) (t := (.object "com/example/hamal/hamal/api/ErrorCode")) (t' := (.object "java/lang/Throwable")) (by decide) (by decide)))).other W106 (Or.inr (slot_ne (Or.inr (hw _ (List.mem_of_getElem? (i := 102) rfl))) (Or.inl (hw _ (List.mem_of_getElem? (i := 69) rfl))) (by decide) (t := (.object "com/example/hamal/hamal/api/ErrorCode")) (t' := (.array (.object "java/lang/StackTraceElement"))) (by decide) (by decide)))).other W110 (Or.inr (slot_ne (Or.inr (hw _ (List.mem_of_getElem? (i := 102) rfl))) (Or.inl (hw _ (List.mem_of_getElem? (i := 72) rfl))) (by decide) (t := (.object "com/example/hamal/hamal/api/ErrorCode")) (t' := (.object "java/util/List")) (by decide) (by decide))))
  have F113 : Fld Z h110 ot "com/example/hamal/hamal/api/ApiException" "retryAfterSeconds" "Ljava/lang/Integer;" .null := (((hR.other W102 (Or.inr (slot_ne (Or.inr (hw _ (List.mem_of_getElem? (i := 104) rfl))) (Or.inl (hw _ (List.mem_of_getElem? (i := 66) rfl))) (by decide) (t := (.object "java/lang/Integer")) (t' := (.object "java/lang/Throwable")) (by decide) (by decide)))).other W106 (Or.inr (slot_ne (Or.inr (hw _ (List.mem_of_getElem? (i := 104) rfl))) (Or.inl (hw _ (List.mem_of_getElem? (i := 69) rfl))) (by decide) (t := (.object "java/lang/Integer")) (t' := (.array (.object "java/lang/StackTraceElement"))) (by decide) (by decide)))).other W110 (Or.inr (slot_ne (Or.inr (hw _ (List.mem_of_getElem? (i := 104) rfl))) (Or.inl (hw _ (List.mem_of_getElem? (i := 72) rfl))) (by decide) (t := (.object "java/lang/Integer")) (t' := (.object "java/util/List")) (by decide) (by decide))))
  have F114 : Exa Z h110 ot "com/example/hamal/hamal/api/ApiException" := (F108.wr W110)
  have F115 : Unt h110 ot := (Jvm.RoadKit.Unt.wr W110 (Jvm.RoadKit.Unt.wr W106 (Jvm.RoadKit.Unt.wr W102 hU)))
  have F116 : Fld Z h110 ot "java/lang/Throwable" "backtrace" "Ljava/lang/Object;" .null := (((hF4.other W102 (Or.inr (slot_ne (Or.inl (hw _ (List.mem_of_getElem? (i := 97) rfl))) (Or.inl (hw _ (List.mem_of_getElem? (i := 66) rfl))) (by decide) (t := (.object "java/lang/Object")) (t' := (.object "java/lang/Throwable")) (by decide) (by decide)))).other W106 (Or.inr (slot_ne (Or.inl (hw _ (List.mem_of_getElem? (i := 97) rfl))) (Or.inl (hw _ (List.mem_of_getElem? (i := 69) rfl))) (by decide) (t := (.object "java/lang/Object")) (t' := (.array (.object "java/lang/StackTraceElement"))) (by decide) (by decide)))).other W110 (Or.inr (slot_ne (Or.inl (hw _ (List.mem_of_getElem? (i := 97) rfl))) (Or.inl (hw _ (List.mem_of_getElem? (i := 72) rfl))) (by decide) (t := (.object "java/lang/Object")) (t' := (.object "java/util/List")) (by decide) (by decide))))
  have F117 : Fld Z h110 ot "java/lang/Throwable" "stackTrace" "[Ljava/lang/StackTraceElement;" uS := (Fw106.other W110 (Or.inr (slot_ne (Or.inl (hw _ (List.mem_of_getElem? (i := 69) rfl))) (Or.inl (hw _ (List.mem_of_getElem? (i := 72) rfl))) (by decide) (t := (.array (.object "java/lang/StackTraceElement"))) (t' := (.object "java/util/List")) (by decide) (by decide))))
  obtain ⟨T111, h111, X111, e111, Q111, A111, U111, st111⟩ := own_fill X110 hx htr hZ hown hw (by rw [hh]; exact Jvm.RoadKit.ThS.start.ext X00.2) hK.1 hK.2 e110 ruS F114 F115 F116 F117 (oUS.ext Xo110.2) Bs110 (g := (mkF m 24 #[.val (.ref ot), .val vs] [(.ref ot)])) rfl (by rw [hml]; rfl) (rest := []) rfl (hb hby own_d_jdk_78_m2_24) (W := 0) (by show 2 * 0 + 0 ≤ 0; decide) (by decide) (by decide) (by decide) (by decide)
  have K111 := keep_of_kp Q111
  have Xo111 : Old Z n0 h111 := Xo110.keep K111 (allS hG all0)
  have KK111 : Keep h0 h111 [ot] := KK110.trans K111 (allS (Or.inl (List.mem_of_getElem? (i := 0) rfl)) all0)
  have Fx111_code : Fld Z h111 ot "com/example/hamal/hamal/api/ApiException" "code" "Lcom/example/hamal/hamal/api/ErrorCode;" .null := Fld.kp Q111 F112 (Or.inr fun nd hnd => by
    simp only [Jvm.Free.Exc.sixNames, List.mem_cons, List.not_mem_nil, or_false] at hnd
    rcases hnd with rfl | rfl | rfl | rfl | rfl | rfl
    · exact slot_ne (Or.inl (hw _ (List.mem_of_getElem? (i := 66) rfl))) (Or.inr (hw _ (List.mem_of_getElem? (i := 102) rfl))) (by decide) (t := (.object "java/lang/Throwable")) (t' := (.object "com/example/hamal/hamal/api/ErrorCode")) (by decide) (by decide)
    · exact slot_ne (Or.inl (hw _ (List.mem_of_getElem? (i := 69) rfl))) (Or.inr (hw _ (List.mem_of_getElem? (i := 102) rfl))) (by decide) (t := (.array (.object "java/lang/StackTraceElement"))) (t' := (.object "com/example/hamal/hamal/api/ErrorCode")) (by decide) (by decide)
    · exact slot_ne (Or.inl (hw _ (List.mem_of_getElem? (i := 72) rfl))) (Or.inr (hw _ (List.mem_of_getElem? (i := 102) rfl))) (by decide) (t := (.object "java/util/List")) (t' := (.object "com/example/hamal/hamal/api/ErrorCode")) (by decide) (by decide)
    · exact slot_ne (Or.inl (hw _ (List.mem_of_getElem? (i := 97) rfl))) (Or.inr (hw _ (List.mem_of_getElem? (i := 102) rfl))) (by decide) (t := (.object "java/lang/Object")) (t' := (.object "com/example/hamal/hamal/api/ErrorCode")) (by decide) (by decide)
    · exact slot_ne (Or.inl (hw _ (List.mem_of_getElem? (i := 98) rfl))) (Or.inr (hw _ (List.mem_of_getElem? (i := 102) rfl))) (by decide) (t := .int) (t' := (.object "com/example/hamal/hamal/api/ErrorCode")) (by decide) (by decide)
    · exact slot_ne (Or.inl (hw _ (List.mem_of_getElem? (i := 96) rfl))) (Or.inr (hw _ (List.mem_of_getElem? (i := 102) rfl))) (by decide) (t := (.object "java/lang/String")) (t' := (.object "com/example/hamal/hamal/api/ErrorCode")) (by decide) (by decide))
  have Fx111_retryAfterSeconds : Fld Z h111 ot "com/example/hamal/hamal/api/ApiException" "retryAfterSeconds" "Ljava/lang/Integer;" .null := Fld.kp Q111 F113 (Or.inr fun nd hnd => by
    simp only [Jvm.Free.Exc.sixNames, List.mem_cons, List.not_mem_nil, or_false] at hnd
    rcases hnd with rfl | rfl | rfl | rfl | rfl | rfl
    · exact slot_ne (Or.inl (hw _ (List.mem_of_getElem? (i := 66) rfl))) (Or.inr (hw _ (List.mem_of_getElem? (i := 104) rfl))) (by decide) (t := (.object "java/lang/Throwable")) (t' := (.object "java/lang/Integer")) (by decide) (by decide)
    · exact slot_ne (Or.inl (hw _ (List.mem_of_getElem? (i := 69) rfl))) (Or.inr (hw _ (List.mem_of_getElem? (i := 104) rfl))) (by decide) (t := (.array (.object "java/lang/StackTraceElement"))) (t' := (.object "java/lang/Integer")) (by decide) (by decide)
    · exact slot_ne (Or.inl (hw _ (List.mem_of_getElem? (i := 72) rfl))) (Or.inr (hw _ (List.mem_of_getElem? (i := 104) rfl))) (by decide) (t := (.object "java/util/List")) (t' := (.object "java/lang/Integer")) (by decide) (by decide)
    · exact slot_ne (Or.inl (hw _ (List.mem_of_getElem? (i := 97) rfl))) (Or.inr (hw _ (List.mem_of_getElem? (i := 104) rfl))) (by decide) (t := (.object "java/lang/Object")) (t' := (.object "java/lang/Integer")) (by decide) (by decide)
    · exact slot_ne (Or.inl (hw _ (List.mem_of_getElem? (i := 98) rfl))) (Or.inr (hw _ (List.mem_of_getElem? (i := 104) rfl))) (by decide) (t := .int) (t' := (.object "java/lang/Integer")) (by decide) (by decide)
    · exact slot_ne (Or.inl (hw _ (List.mem_of_getElem? (i := 96) rfl))) (Or.inr (hw _ (List.mem_of_getElem? (i := 104) rfl))) (by decide) (t := (.object "java/lang/String")) (t' := (.object "java/lang/Integer")) (by decide) (by decide))
  obtain ⟨vM111, FM111⟩ := fld_laid (O := "java/lang/Throwable") (n := "detailMessage") (d := "Ljava/lang/String;") A111 (by obtain ⟨c0, u1, u2, -⟩ := id U111; exact ⟨c0, u1, by rw [u2]; simp⟩) (hw _ (List.mem_of_getElem? (i := 32) rfl)) (Or.inl (hw _ (List.mem_of_getElem? (i := 96) rfl)))
  have N111 := Fr.six (Z := Z) N110 hG
  refine own_to (V := T111.setTop (mkF m 27 #[.val (.ref ot), .val vs] [(.ref ot)])) ?_ st111
  refine own_to (V := T111.setTop (mkF m 30 #[.val (.ref ot), .val vs] [vs, (.ref ot)])) ?_ fun t k => (by
    refine XS.pop X111.here hx rfl (hb hby own_d_jdk_78_m2_27) rfl rfl ?_
    refine XS.aloadN X111.here hx rfl (hb hby own_d_jdk_78_m2_28) rfl rfl ?_
    refine XS.aloadN X111.here hx rfl (hb hby own_d_jdk_78_m2_29) rfl rs ?_
    exact k)
  obtain ⟨T118, h118, X118, e118, W118, st118⟩ := putF X111 hx hZ hown (host := "") (Or.inl (hw _ (List.mem_of_getElem? (i := 100) rfl))) Via.refl e111 FM111 A111 (Or.inl (hw _ (List.mem_of_getElem? (i := 96) rfl))) (hw _ (List.mem_of_getElem? (i := 32) rfl)) (ty := (.object "java/lang/String")) (by decide) (own_narR rs) (own_fitR rs) (g := (mkF m 30 #[.val (.ref ot), .val vs] [vs, (.ref ot)])) rfl rfl (hb hby own_d_jdk_78_m2_30)
  have Xo118 : Old Z n0 h118 := Xo111.wr W118 hG
  have KK118 : Keep h0 h118 [ot] := KK111.wr W118 (Or.inl (List.mem_of_getElem? (i := 0) rfl))
  have Fw118 : Fld Z h118 ot "java/lang/Throwable" "detailMessage" "Ljava/lang/String;" vs := FM111.same W118
  have N118 := Fr.snoc X118 N111 hG
  refine own_to (V := T118.setTop (mkF m 33 #[.val (.ref ot), .val vs] [])) ?_ st118
  have F119 : Fld Z h118 ot "com/example/hamal/hamal/api/ApiException" "code" "Lcom/example/hamal/hamal/api/ErrorCode;" .null := (Fx111_code.other W118 (Or.inr (slot_ne (Or.inr (hw _ (List.mem_of_getElem? (i := 102) rfl))) (Or.inl (hw _ (List.mem_of_getElem? (i := 96) rfl))) (by decide) (t := (.object "com/example/hamal/hamal/api/ErrorCode")) (t' := (.object "java/lang/String")) (by decide) (by decide))))
  have F120 : Fld Z h118 ot "com/example/hamal/hamal/api/ApiException" "retryAfterSeconds" "Ljava/lang/Integer;" .null := (Fx111_retryAfterSeconds.other W118 (Or.inr (slot_ne (Or.inr (hw _ (List.mem_of_getElem? (i := 104) rfl))) (Or.inl (hw _ (List.mem_of_getElem? (i := 96) rfl))) (by decide) (t := (.object "java/lang/Integer")) (t' := (.object "java/lang/String")) (by decide) (by decide))))
  exact own_retV X118 hx hret hlk (hb hby own_d_jdk_78_m2_33) (by rw [e118]; exact (⟨rfl, N118, KK118, F119, F120⟩)) (by decide) (by decide)
def own_Qexi (Z : State) (ot : Addr) (vs : Value) (h0 : Heap) (n0 : Nat) (v : Option Value) (h : Heap) (L : List Loc) : Prop := (v = none ∧ Fr n0 L ∧ Keep h0 h [ot] ∧ (Fld Z h ot "com/example/hamal/hamal/api/ApiException" "code" "Lcom/example/hamal/hamal/api/ErrorCode;" .null) ∧ (Fld Z h ot "com/example/hamal/hamal/api/ApiException" "retryAfterSeconds" "Ljava/lang/Integer;" .null))
theorem own_ef_exi (m : MethodId) (ot : Addr) (vs : Value) (r0 : vs.isRef = true) : entryFrame m #[(.ref ot), vs] 2 = mkF m 0 #[.val (.ref ot), .val vs] [] := by first | (rcases ref_cases r0 with rfl | ⟨_, rfl⟩; all_goals first | (simp [entryFrame, mkF, argsToLocals, Value.category]; done) | rfl)
set_option maxRecDepth 65536 in
set_option maxHeartbeats 40000000 in
theorem own_rmexi (l : Launch) (Z : State) (a0 : Array Value) (hw : ∀ d ∈ tables_1, d.before a0 Z = true) (hst : own_St Z) (htr : l.stackTraces = true) (ws : List Jvm.Cond) (ot : Addr) (vs : Value) (h0 : Heap) (n0 : Nat) (X00 : Old Z n0 h0) (rs : vs.isRef = true) (hE : Exa Z h0 ot "com/example/hamal/hamal/api/ApiException") (hU : Unt h0 ot) (hF0 : Fld Z h0 ot "java/lang/Throwable" "cause" "Ljava/lang/Throwable;" .null) (hF1 : Fld Z h0 ot "java/lang/Throwable" "stackTrace" "[Ljava/lang/StackTraceElement;" .null) (hF2 : Fld Z h0 ot "java/lang/Throwable" "suppressedExceptions" "Ljava/util/List;" .null) (hF3 : Fld Z h0 ot "java/lang/Throwable" "detailMessage" "Ljava/lang/String;" .null) (hF4 : Fld Z h0 ot "java/lang/Throwable" "backtrace" "Ljava/lang/Object;" .null) (hC : Fld Z h0 ot "com/example/hamal/hamal/api/ApiException" "code" "Lcom/example/hamal/hamal/api/ErrorCode;" .null) (hR : Fld Z h0 ot "com/example/hamal/hamal/api/ApiException" "retryAfterSeconds" "Ljava/lang/Integer;" .null) (hG : n0 ≤ ot) :
    MetFree l (⟨"java/lang/Exception", "<init>", "(Ljava/lang/String;)V"⟩ : MethodName) (head1 (Jvm.Cond.code (⟨"java/lang/Exception", "<init>", "(Ljava/lang/String;)V"⟩ : MethodName) jdk_59_method_2_code 2 (Option.none : Option Jvm.ClassFile.FieldType) :: ws) ({ frames := 4, cells := 1, slots := 2752, locals := 55 } : Room)) (fun a U => a = #[(.ref ot), vs] ∧ Z.Warmed39 U.vm ∧ U.heap = h0) (fun _ _ bl s _ => s.vm.MethodsKnown ∧ s.vm.FramesKnown bl) (fun _ U o U' => ∃ v L, o = .returned v ∧ own_Qexi Z ot vs h0 n0 v U'.heap L ∧ FrameEnd U o U' L ({ frames := 4, cells := 1, slots := 2752, locals := 55 } : Room).cells ({ frames := 4, cells := 1, slots := 2752, locals := 55 } : Room).slots) := by
  refine MetFree.of_bodySF (plainFor_of_name own_pn4) hisR ?_
  intro p e s m args below meth c s₁ Bd hml0 hP hK
  obtain ⟨rfl, hZ, hh⟩ := hP
  have hx := Bd.exec
  have hby := Bd.bytes
  have hret := Bd.returns
  have hlk : meth.locks = false := BodyLoose.notSynchronized Bd
  have hml : c.maxLocals = 2 := hml0
  have hown : s.vm.findClass "java/lang/Exception" = some m.cls := findClass_of_methodNamed Bd.named
  have hnm := (name_of_methodNamed Bd.named Bd.method).1
  have X0 : Stand p l e ({ frames := 4, cells := 1, slots := 2752, locals := 55 } : Room) s m #[(.ref ot), vs] below meth c s₁ [] 0 0 := Stand.of_body Bd
  have e0 : s₁.heap = h0 := by rw [← hh, Bd.state]; rfl
  have N0 := Fr.nil n0
  have KK0 : Keep h0 h0 [ot] := Keep.refl h0 _
  refine own_start (own_Qexi Z ot vs h0 n0) ?_
  refine own_to (V := s₁.setTop (mkF m 0 #[.val (.ref ot), .val vs] [])) ?_ (fun t k => castTop (own_ef_exi m ot vs rs) k)
  obtain ⟨⟨G1, O2, P5⟩, ⟨G3, O4, rG3⟩, ⟨iC, iL, iO1, iO2, iA, iE⟩, ⟨ec0, ec1, ec2, ec3, ec4, ec5, ec6, ec7, ec8, so0, so1, so2, so3, so4, so5, so6, so7, so8⟩, ⟨oe, oeS, oeE, oeP⟩, ⟨uS, uP, oUS, ruS, oUP, ruP⟩, -⟩ := id hst
  refine own_to (V := s₁.setTop (mkF m 2 #[.val (.ref ot), .val vs] [vs, (.ref ot)])) ?_ fun t k => (by
    refine XS.aloadN X0.here hx rfl (hb hby own_d_jdk_59_m2_0) rfl rfl ?_
    refine XS.aloadN X0.here hx rfl (hb hby own_d_jdk_59_m2_1) rfl rs ?_
    exact k)
  obtain ⟨_, _, ⟨T101, L101, k101, n101⟩, -, X101, ⟨Lc101, hQ101, l101, y101, z101⟩, st101⟩ := X0.specialBack hx (y := (⟨"java/lang/Throwable", "<init>", "(Ljava/lang/String;)V"⟩ : MethodName)) rfl hown (mvT hZ (hw _ (List.mem_of_getElem? (i := 58) rfl))) (mvT hZ (hw _ (List.mem_of_getElem? (i := 59) rfl))) (mvT hZ (hw _ (List.mem_of_getElem? (i := 63) rfl))) (by decide) (backOfKL (W := 0) (own_rmthi l Z a0 hw hst htr [] ot vs h0 n0 X00 rs hE hU hF0 hF1 hF2 hF3 hF4 hC hR hG) hZ (hw _ (List.mem_of_getElem? (i := 63) rfl)) (hw _ (List.mem_of_getElem? (i := 62) rfl)) (by decide) (by decide) hK.1 hK.2) (g := (mkF m 2 #[.val (.ref ot), .val vs] [vs, (.ref ot)])) rfl (by rw [hml]; rfl) (Steps.refl _) (a := ot) (argsL := [vs]) (rest := []) (lenOf own_pd2 rfl) rfl (by show 2 * 0 + _ ≤ _; exact Nat.le_of_eq rfl) (hb hby own_d_jdk_59_m2_2) (fun _ _ => ⟨rfl, e0, (by decide : 0 + 1 ≤ _), (by decide : 0 + 2752 ≤ _)⟩)
  dsimp only [Pt.U, Pt.locs, Pt.cells, Pt.slots] at X101 l101 y101 z101 st101 hQ101
  subst l101 y101 z101
  obtain ⟨hv101, N101q, K101, g101_0, g101_1⟩ := hQ101
  subst hv101
  obtain ⟨h101, e101⟩ : ∃ z, T101.heap = z := ⟨_, rfl⟩
  rw [e101] at K101 g101_0 g101_1
  have Xo101 : Old Z n0 h101 := X00.keep K101 (allS hG all0)
  have KK101 : Keep h0 h101 [ot] := KK0.trans K101 (allS (Or.inl (List.mem_of_getElem? (i := 0) rfl)) all0)
  have N101 := Fr.app N0 N101q
  refine own_to (V := T101.setTop (mkF m 5 #[.val (.ref ot), .val vs] [])) ?_ (fun t k => st101.trans k)
  exact own_retV X101 hx hret hlk (hb hby own_d_jdk_59_m2_5) (by rw [e101]; exact (⟨rfl, N101, KK101, g101_0, g101_1⟩)) (by decide) (by decide)
def own_Qrti (Z : State) (ot : Addr) (vs : Value) (h0 : Heap) (n0 : Nat) (v : Option Value) (h : Heap) (L : List Loc) : Prop := (v = none ∧ Fr n0 L ∧ Keep h0 h [ot] ∧ (Fld Z h ot "com/example/hamal/hamal/api/ApiException" "code" "Lcom/example/hamal/hamal/api/ErrorCode;" .null) ∧ (Fld Z h ot "com/example/hamal/hamal/api/ApiException" "retryAfterSeconds" "Ljava/lang/Integer;" .null))
theorem own_ef_rti (m : MethodId) (ot : Addr) (vs : Value) (r0 : vs.isRef = true) : entryFrame m #[(.ref ot), vs] 2 = mkF m 0 #[.val (.ref ot), .val vs] [] := by first | (rcases ref_cases r0 with rfl | ⟨_, rfl⟩; all_goals first | (simp [entryFrame, mkF, argsToLocals, Value.category]; done) | rfl)
set_option maxRecDepth 65536 in
set_option maxHeartbeats 40000000 in
theorem own_rmrti (l : Launch) (Z : State) (a0 : Array Value) (hw : ∀ d ∈ tables_1, d.before a0 Z = true) (hst : own_St Z) (htr : l.stackTraces = true) (ws : List Jvm.Cond) (ot : Addr) (vs : Value) (h0 : Heap) (n0 : Nat) (X00 : Old Z n0 h0) (rs : vs.isRef = true) (hE : Exa Z h0 ot "com/example/hamal/hamal/api/ApiException") (hU : Unt h0 ot) (hF0 : Fld Z h0 ot "java/lang/Throwable" "cause" "Ljava/lang/Throwable;" .null) (hF1 : Fld Z h0 ot "java/lang/Throwable" "stackTrace" "[Ljava/lang/StackTraceElement;" .null) (hF2 : Fld Z h0 ot "java/lang/Throwable" "suppressedExceptions" "Ljava/util/List;" .null) (hF3 : Fld Z h0 ot "java/lang/Throwable" "detailMessage" "Ljava/lang/String;" .null) (hF4 : Fld Z h0 ot "java/lang/Throwable" "backtrace" "Ljava/lang/Object;" .null) (hC : Fld Z h0 ot "com/example/hamal/hamal/api/ApiException" "code" "Lcom/example/hamal/hamal/api/ErrorCode;" .null) (hR : Fld Z h0 ot "com/example/hamal/hamal/api/ApiException" "retryAfterSeconds" "Ljava/lang/Integer;" .null) (hG : n0 ≤ ot) :
    MetFree l (⟨"java/lang/RuntimeException", "<init>", "(Ljava/lang/String;)V"⟩ : MethodName) (head1 (Jvm.Cond.code (⟨"java/lang/RuntimeException", "<init>", "(Ljava/lang/String;)V"⟩ : MethodName) jdk_58_method_2_code 2 (Option.none : Option Jvm.ClassFile.FieldType) :: ws) ({ frames := 5, cells := 1, slots := 2752, locals := 68 } : Room)) (fun a U => a = #[(.ref ot), vs] ∧ Z.Warmed39 U.vm ∧ U.heap = h0) (fun _ _ bl s _ => s.vm.MethodsKnown ∧ s.vm.FramesKnown bl) (fun _ U o U' => ∃ v L, o = .returned v ∧ own_Qrti Z ot vs h0 n0 v U'.heap L ∧ FrameEnd U o U' L ({ frames := 5, cells := 1, slots := 2752, locals := 68 } : Room).cells ({ frames := 5, cells := 1, slots := 2752, locals := 68 } : Room).slots) := by
  refine MetFree.of_bodySF (plainFor_of_name own_pn5) hisR ?_
  intro p e s m args below meth c s₁ Bd hml0 hP hK
  obtain ⟨rfl, hZ, hh⟩ := hP
  have hx := Bd.exec
  have hby := Bd.bytes
  have hret := Bd.returns
  have hlk : meth.locks = false := BodyLoose.notSynchronized Bd
  have hml : c.maxLocals = 2 := hml0
  have hown : s.vm.findClass "java/lang/RuntimeException" = some m.cls := findClass_of_methodNamed Bd.named
  have hnm := (name_of_methodNamed Bd.named Bd.method).1
  have X0 : Stand p l e ({ frames := 5, cells := 1, slots := 2752, locals := 68 } : Room) s m #[(.ref ot), vs] below meth c s₁ [] 0 0 := Stand.of_body Bd
  have e0 : s₁.heap = h0 := by rw [← hh, Bd.state]; rfl
  have N0 := Fr.nil n0
  have KK0 : Keep h0 h0 [ot] := Keep.refl h0 _
  refine own_start (own_Qrti Z ot vs h0 n0) ?_
  refine own_to (V := s₁.setTop (mkF m 0 #[.val (.ref ot), .val vs] [])) ?_ (fun t k => castTop (own_ef_rti m ot vs rs) k)
  obtain ⟨⟨G1, O2, P5⟩, ⟨G3, O4, rG3⟩, ⟨iC, iL, iO1, iO2, iA, iE⟩, ⟨ec0, ec1, ec2, ec3, ec4, ec5, ec6, ec7, ec8, so0, so1, so2, so3, so4, so5, so6, so7, so8⟩, ⟨oe, oeS, oeE, oeP⟩, ⟨uS, uP, oUS, ruS, oUP, ruP⟩, -⟩ := id hst
  refine own_to (V := s₁.setTop (mkF m 2 #[.val (.ref ot), .val vs] [vs, (.ref ot)])) ?_ fun t k => (by
    refine XS.aloadN X0.here hx rfl (hb hby own_d_jdk_58_m2_0) rfl rfl ?_
    refine XS.aloadN X0.here hx rfl (hb hby own_d_jdk_58_m2_1) rfl rs ?_
    exact k)
  obtain ⟨_, _, ⟨T101, L101, k101, n101⟩, -, X101, ⟨Lc101, hQ101, l101, y101, z101⟩, st101⟩ := X0.specialBack hx (y := (⟨"java/lang/Exception", "<init>", "(Ljava/lang/String;)V"⟩ : MethodName)) rfl hown (mvT hZ (hw _ (List.mem_of_getElem? (i := 52) rfl))) (mvT hZ (hw _ (List.mem_of_getElem? (i := 53) rfl))) (mvT hZ (hw _ (List.mem_of_getElem? (i := 57) rfl))) (by decide) (backOfKL (W := 0) (own_rmexi l Z a0 hw hst htr [] ot vs h0 n0 X00 rs hE hU hF0 hF1 hF2 hF3 hF4 hC hR hG) hZ (hw _ (List.mem_of_getElem? (i := 57) rfl)) (hw _ (List.mem_of_getElem? (i := 56) rfl)) (by decide) (by decide) hK.1 hK.2) (g := (mkF m 2 #[.val (.ref ot), .val vs] [vs, (.ref ot)])) rfl (by rw [hml]; rfl) (Steps.refl _) (a := ot) (argsL := [vs]) (rest := []) (lenOf own_pd2 rfl) rfl (by show 2 * 0 + _ ≤ _; exact Nat.le_of_eq rfl) (hb hby own_d_jdk_58_m2_2) (fun _ _ => ⟨rfl, e0, (by decide : 0 + 1 ≤ _), (by decide : 0 + 2752 ≤ _)⟩)
  dsimp only [Pt.U, Pt.locs, Pt.cells, Pt.slots] at X101 l101 y101 z101 st101 hQ101
  subst l101 y101 z101
  obtain ⟨hv101, N101q, K101, g101_0, g101_1⟩ := hQ101
  subst hv101
  obtain ⟨h101, e101⟩ : ∃ z, T101.heap = z := ⟨_, rfl⟩
  rw [e101] at K101 g101_0 g101_1
  have Xo101 : Old Z n0 h101 := X00.keep K101 (allS hG all0)
  have KK101 : Keep h0 h101 [ot] := KK0.trans K101 (allS (Or.inl (List.mem_of_getElem? (i := 0) rfl)) all0)
  have N101 := Fr.app N0 N101q
  refine own_to (V := T101.setTop (mkF m 5 #[.val (.ref ot), .val vs] [])) ?_ (fun t k => st101.trans k)
  exact own_retV X101 hx hret hlk (hb hby own_d_jdk_58_m2_5) (by rw [e101]; exact (⟨rfl, N101, KK101, g101_0, g101_1⟩)) (by decide) (by decide)
def own_Qapi3 (Z : State) (ot : Addr) (vc : Value) (vm : Value) (vi : Value) (h0 : Heap) (n0 : Nat) (v : Option Value) (h : Heap) (L : List Loc) : Prop := (v = none ∧ Fr n0 L ∧ Keep h0 h [ot] ∧ (Fld Z h ot "com/example/hamal/hamal/api/ApiException" "retryAfterSeconds" "Ljava/lang/Integer;" vi))
theorem own_ef_api3 (m : MethodId) (ot : Addr) (vc : Value) (vm : Value) (vi : Value) (r0 : vc.isRef = true) (r1 : vm.isRef = true) (r2 : vi.isRef = true) : entryFrame m #[(.ref ot), vc, vm, vi] 4 = mkF m 0 #[.val (.ref ot), .val vc, .val vm, .val vi] [] := by first | (rcases ref_cases r0 with rfl | ⟨_, rfl⟩ <;> rcases ref_cases r1 with rfl | ⟨_, rfl⟩ <;> rcases ref_cases r2 with rfl | ⟨_, rfl⟩; all_goals first | (simp [entryFrame, mkF, argsToLocals, Value.category]; done) | rfl)
set_option maxRecDepth 65536 in
set_option maxHeartbeats 40000000 in
theorem own_rmapi3 (l : Launch) (Z : State) (a0 : Array Value) (hw : ∀ d ∈ tables_1, d.before a0 Z = true) (hst : own_St Z) (htr : l.stackTraces = true) (ws : List Jvm.Cond) (ot : Addr) (vc : Value) (vm : Value) (vi : Value) (h0 : Heap) (n0 : Nat) (X00 : Old Z n0 h0) (rc : vc.isRef = true) (rm : vm.isRef = true) (ri : vi.isRef = true) (hE : Exa Z h0 ot "com/example/hamal/hamal/api/ApiException") (hU : Unt h0 ot) (hF0 : Fld Z h0 ot "java/lang/Throwable" "cause" "Ljava/lang/Throwable;" .null) (hF1 : Fld Z h0 ot "java/lang/Throwable" "stackTrace" "[Ljava/lang/StackTraceElement;" .null) (hF2 : Fld Z h0 ot "java/lang/Throwable" "suppressedExceptions" "Ljava/util/List;" .null) (hF3 : Fld Z h0 ot "java/lang/Throwable" "detailMessage" "Ljava/lang/String;" .null) (hF4 : Fld Z h0 ot "java/lang/Throwable" "backtrace" "Ljava/lang/Object;" .null) (hC : Fld Z h0 ot "com/example/hamal/hamal/api/ApiException" "code" "Lcom/example/hamal/hamal/api/ErrorCode;" .null) (hR : Fld Z h0 ot "com/example/hamal/hamal/api/ApiException" "retryAfterSeconds" "Ljava/lang/Integer;" .null) (hG : n0 ≤ ot) :
    MetFree l (⟨"com/example/hamal/hamal/api/ApiException", "<init>", "(Lcom/example/hamal/hamal/api/ErrorCode;Ljava/lang/String;Ljava/lang/Integer;)V"⟩ : MethodName) (head1 (Jvm.Cond.code (⟨"com/example/hamal/hamal/api/ApiException", "<init>", "(Lcom/example/hamal/hamal/api/ErrorCode;Ljava/lang/String;Ljava/lang/Integer;)V"⟩ : MethodName) prog_5_method_2_code 4 (Option.none : Option Jvm.ClassFile.FieldType) :: ws) ({ frames := 6, cells := 1, slots := 2752, locals := 81 } : Room)) (fun a U => a = #[(.ref ot), vc, vm, vi] ∧ Z.Warmed39 U.vm ∧ U.heap = h0) (fun _ _ bl s _ => s.vm.MethodsKnown ∧ s.vm.FramesKnown bl) (fun _ U o U' => ∃ v L, o = .returned v ∧ own_Qapi3 Z ot vc vm vi h0 n0 v U'.heap L ∧ FrameEnd U o U' L ({ frames := 6, cells := 1, slots := 2752, locals := 81 } : Room).cells ({ frames := 6, cells := 1, slots := 2752, locals := 81 } : Room).slots) := by
  refine MetFree.of_bodySF (plainFor_of_name own_pn6) hisR ?_
  intro p e s m args below meth c s₁ Bd hml0 hP hK
  obtain ⟨rfl, hZ, hh⟩ := hP
  have hx := Bd.exec
  have hby := Bd.bytes
  have hret := Bd.returns
  have hlk : meth.locks = false := BodyLoose.notSynchronized Bd
  have hml : c.maxLocals = 4 := hml0
  have hown : s.vm.findClass "com/example/hamal/hamal/api/ApiException" = some m.cls := findClass_of_methodNamed Bd.named
  have hnm := (name_of_methodNamed Bd.named Bd.method).1
  have X0 : Stand p l e ({ frames := 6, cells := 1, slots := 2752, locals := 81 } : Room) s m #[(.ref ot), vc, vm, vi] below meth c s₁ [] 0 0 := Stand.of_body Bd
  have e0 : s₁.heap = h0 := by rw [← hh, Bd.state]; rfl
  have N0 := Fr.nil n0
  have KK0 : Keep h0 h0 [ot] := Keep.refl h0 _
  refine own_start (own_Qapi3 Z ot vc vm vi h0 n0) ?_
  refine own_to (V := s₁.setTop (mkF m 0 #[.val (.ref ot), .val vc, .val vm, .val vi] [])) ?_ (fun t k => castTop (own_ef_api3 m ot vc vm vi rc rm ri) k)
  obtain ⟨⟨G1, O2, P5⟩, ⟨G3, O4, rG3⟩, ⟨iC, iL, iO1, iO2, iA, iE⟩, ⟨ec0, ec1, ec2, ec3, ec4, ec5, ec6, ec7, ec8, so0, so1, so2, so3, so4, so5, so6, so7, so8⟩, ⟨oe, oeS, oeE, oeP⟩, ⟨uS, uP, oUS, ruS, oUP, ruP⟩, -⟩ := id hst
  refine own_to (V := s₁.setTop (mkF m 2 #[.val (.ref ot), .val vc, .val vm, .val vi] [vm, (.ref ot)])) ?_ fun t k => (by
    refine XS.aloadN X0.here hx rfl (hb hby own_d_prog_5_m2_0) rfl rfl ?_
    refine XS.aloadN X0.here hx rfl (hb hby own_d_prog_5_m2_1) rfl rm ?_
    exact k)
  obtain ⟨_, _, ⟨T101, L101, k101, n101⟩, -, X101, ⟨Lc101, hQ101, l101, y101, z101⟩, st101⟩ := X0.specialBack hx (y := (⟨"java/lang/RuntimeException", "<init>", "(Ljava/lang/String;)V"⟩ : MethodName)) rfl hown (mvT hZ (hw _ (List.mem_of_getElem? (i := 47) rfl))) (mvT hZ (hw _ (List.mem_of_getElem? (i := 48) rfl))) (mvT hZ (hw _ (List.mem_of_getElem? (i := 51) rfl))) (by decide) (backOfKL (W := 0) (own_rmrti l Z a0 hw hst htr [] ot vm h0 n0 X00 rm hE hU hF0 hF1 hF2 hF3 hF4 hC hR hG) hZ (hw _ (List.mem_of_getElem? (i := 51) rfl)) (hw _ (List.mem_of_getElem? (i := 50) rfl)) (by decide) (by decide) hK.1 hK.2) (g := (mkF m 2 #[.val (.ref ot), .val vc, .val vm, .val vi] [vm, (.ref ot)])) rfl (by rw [hml]; rfl) (Steps.refl _) (a := ot) (argsL := [vm]) (rest := []) (lenOf own_pd2 rfl) rfl (by show 2 * 0 + _ ≤ _; exact Nat.le_of_eq rfl) (hb hby own_d_prog_5_m2_2) (fun _ _ => ⟨rfl, e0, (by decide : 0 + 1 ≤ _), (by decide : 0 + 2752 ≤ _)⟩)
  dsimp only [Pt.U, Pt.locs, Pt.cells, Pt.slots] at X101 l101 y101 z101 st101 hQ101
  subst l101 y101 z101
  obtain ⟨hv101, N101q, K101, g101_0, g101_1⟩ := hQ101
  subst hv101
  obtain ⟨h101, e101⟩ : ∃ z, T101.heap = z := ⟨_, rfl⟩
  rw [e101] at K101 g101_0 g101_1
  have Xo101 : Old Z n0 h101 := X00.keep K101 (allS hG all0)
  have KK101 : Keep h0 h101 [ot] := KK0.trans K101 (allS (Or.inl (List.mem_of_getElem? (i := 0) rfl)) all0)
  have N101 := Fr.app N0 N101q
  refine own_to (V := T101.setTop (mkF m 5 #[.val (.ref ot), .val vc, .val vm, .val vi] [])) ?_ (fun t k => st101.trans k)
  refine own_to (V := T101.setTop (mkF m 7 #[.val (.ref ot), .val vc, .val vm, .val vi] [vc, (.ref ot)])) ?_ fun t k => (by
    refine XS.aloadN X101.here hx rfl (hb hby own_d_prog_5_m2_5) rfl rfl ?_
    refine XS.aloadN X101.here hx rfl (hb hby own_d_prog_5_m2_6) rfl rc ?_
    exact k)
  have F102 : Exa Z h101 ot "com/example/hamal/hamal/api/ApiException" := (hE.keep K101)
  obtain ⟨T103, h103, X103, e103, W103, st103⟩ := putF X101 hx hZ hown (host := "") (Or.inl (hw _ (List.mem_of_getElem? (i := 101) rfl))) Via.refl e101 g101_0 F102 (Or.inr ⟨(hw _ (List.mem_of_getElem? (i := 102) rfl)), rfl, hnm⟩) (hw _ (List.mem_of_getElem? (i := 32) rfl)) (ty := (.object "com/example/hamal/hamal/api/ErrorCode")) (by decide) (own_narR rc) (own_fitR rc) (g := (mkF m 7 #[.val (.ref ot), .val vc, .val vm, .val vi] [vc, (.ref ot)])) rfl rfl (hb hby own_d_prog_5_m2_7)
  have Xo103 : Old Z n0 h103 := Xo101.wr W103 hG
  have KK103 : Keep h0 h103 [ot] := KK101.wr W103 (Or.inl (List.mem_of_getElem? (i := 0) rfl))
  have Fw103 : Fld Z h103 ot "com/example/hamal/hamal/api/ApiException" "code" "Lcom/example/hamal/hamal/api/ErrorCode;" vc := g101_0.same W103
  have N103 := Fr.snoc X103 N101 hG
  refine own_to (V := T103.setTop (mkF m 10 #[.val (.ref ot), .val vc, .val vm, .val vi] [])) ?_ st103
  refine own_to (V := T103.setTop (mkF m 12 #[.val (.ref ot), .val vc, .val vm, .val vi] [vi, (.ref ot)])) ?_ fun t k => (by
    refine XS.aloadN X103.here hx rfl (hb hby own_d_prog_5_m2_10) rfl rfl ?_
    refine XS.aloadN X103.here hx rfl (hb hby own_d_prog_5_m2_11) rfl ri ?_
    exact k)
  have F104 : Exa Z h103 ot "com/example/hamal/hamal/api/ApiException" := (F102.wr W103)
  have F105 : Fld Z h103 ot "com/example/hamal/hamal/api/ApiException" "retryAfterSeconds" "Ljava/lang/Integer;" .null := (g101_1.other W103 (Or.inr (slot_ne (Or.inr (hw _ (List.mem_of_getElem? (i := 104) rfl))) (Or.inr (hw _ (List.mem_of_getElem? (i := 102) rfl))) (by decide) (t := (.object "java/lang/Integer")) (t' := (.object "com/example/hamal/hamal/api/ErrorCode")) (by decide) (by decide))))
  obtain ⟨T106, h106, X106, e106, W106, st106⟩ := putF X103 hx hZ hown (host := "") (Or.inl (hw _ (List.mem_of_getElem? (i := 103) rfl))) Via.refl e103 F105 F104 (Or.inr ⟨(hw _ (List.mem_of_getElem? (i := 104) rfl)), rfl, hnm⟩) (hw _ (List.mem_of_getElem? (i := 32) rfl)) (ty := (.object "java/lang/Integer")) (by decide) (own_narR ri) (own_fitR ri) (g := (mkF m 12 #[.val (.ref ot), .val vc, .val vm, .val vi] [vi, (.ref ot)])) rfl rfl (hb hby own_d_prog_5_m2_12)
  have Xo106 : Old Z n0 h106 := Xo103.wr W106 hG
  have KK106 : Keep h0 h106 [ot] := KK103.wr W106 (Or.inl (List.mem_of_getElem? (i := 0) rfl))
  have Fw106 : Fld Z h106 ot "com/example/hamal/hamal/api/ApiException" "retryAfterSeconds" "Ljava/lang/Integer;" vi := F105.same W106
  have N106 := Fr.snoc X106 N103 hG
  refine own_to (V := T106.setTop (mkF m 15 #[.val (.ref ot), .val vc, .val vm, .val vi] [])) ?_ st106
  exact own_retV X106 hx hret hlk (hb hby own_d_prog_5_m2_15) (by rw [e106]; exact (⟨rfl, N106, KK106, Fw106⟩)) (by decide) (by decide)
def own_Qapi2 (Z : State) (ot : Addr) (vc : Value) (vm : Value) (h0 : Heap) (n0 : Nat) (v : Option Value) (h : Heap) (L : List Loc) : Prop := (v = none ∧ Fr n0 L ∧ Keep h0 h [ot] ∧ (Fld Z h ot "com/example/hamal/hamal/api/ApiException" "retryAfterSeconds" "Ljava/lang/Integer;" .null))
theorem own_ef_api2 (m : MethodId) (ot : Addr) (vc : Value) (vm : Value) (r0 : vc.isRef = true) (r1 : vm.isRef = true) : entryFrame m #[(.ref ot), vc, vm] 3 = mkF m 0 #[.val (.ref ot), .val vc, .val vm] [] := by first | (rcases ref_cases r0 with rfl | ⟨_, rfl⟩ <;> rcases ref_cases r1 with rfl | ⟨_, rfl⟩; all_goals first | (simp [entryFrame, mkF, argsToLocals, Value.category]; done) | rfl)
set_option maxRecDepth 65536 in
set_option maxHeartbeats 40000000 in
theorem own_rmapi2 (l : Launch) (Z : State) (a0 : Array Value) (hw : ∀ d ∈ tables_1, d.before a0 Z = true) (hst : own_St Z) (htr : l.stackTraces = true) (ws : List Jvm.Cond) (ot : Addr) (vc : Value) (vm : Value) (h0 : Heap) (n0 : Nat) (X00 : Old Z n0 h0) (rc : vc.isRef = true) (rm : vm.isRef = true) (hE : Exa Z h0 ot "com/example/hamal/hamal/api/ApiException") (hU : Unt h0 ot) (hF0 : Fld Z h0 ot "java/lang/Throwable" "cause" "Ljava/lang/Throwable;" .null) (hF1 : Fld Z h0 ot "java/lang/Throwable" "stackTrace" "[Ljava/lang/StackTraceElement;" .null) (hF2 : Fld Z h0 ot "java/lang/Throwable" "suppressedExceptions" "Ljava/util/List;" .null) (hF3 : Fld Z h0 ot "java/lang/Throwable" "detailMessage" "Ljava/lang/String;" .null) (hF4 : Fld Z h0 ot "java/lang/Throwable" "backtrace" "Ljava/lang/Object;" .null) (hC : Fld Z h0 ot "com/example/hamal/hamal/api/ApiException" "code" "Lcom/example/hamal/hamal/api/ErrorCode;" .null) (hR : Fld Z h0 ot "com/example/hamal/hamal/api/ApiException" "retryAfterSeconds" "Ljava/lang/Integer;" .null) (hG : n0 ≤ ot) :
    MetFree l (⟨"com/example/hamal/hamal/api/ApiException", "<init>", "(Lcom/example/hamal/hamal/api/ErrorCode;Ljava/lang/String;)V"⟩ : MethodName) (head1 (Jvm.Cond.code (⟨"com/example/hamal/hamal/api/ApiException", "<init>", "(Lcom/example/hamal/hamal/api/ErrorCode;Ljava/lang/String;)V"⟩ : MethodName) prog_5_method_1_code 3 (Option.none : Option Jvm.ClassFile.FieldType) :: ws) ({ frames := 7, cells := 1, slots := 2752, locals := 96 } : Room)) (fun a U => a = #[(.ref ot), vc, vm] ∧ Z.Warmed39 U.vm ∧ U.heap = h0) (fun _ _ bl s _ => s.vm.MethodsKnown ∧ s.vm.FramesKnown bl) (fun _ U o U' => ∃ v L, o = .returned v ∧ own_Qapi2 Z ot vc vm h0 n0 v U'.heap L ∧ FrameEnd U o U' L ({ frames := 7, cells := 1, slots := 2752, locals := 96 } : Room).cells ({ frames := 7, cells := 1, slots := 2752, locals := 96 } : Room).slots) := by
  refine MetFree.of_bodySF (plainFor_of_name own_pn6) hisR ?_
  intro p e s m args below meth c s₁ Bd hml0 hP hK
  obtain ⟨rfl, hZ, hh⟩ := hP
  have hx := Bd.exec
  have hby := Bd.bytes
  have hret := Bd.returns
  have hlk : meth.locks = false := BodyLoose.notSynchronized Bd
  have hml : c.maxLocals = 3 := hml0
  have hown : s.vm.findClass "com/example/hamal/hamal/api/ApiException" = some m.cls := findClass_of_methodNamed Bd.named
  have hnm := (name_of_methodNamed Bd.named Bd.method).1
  have X0 : Stand p l e ({ frames := 7, cells := 1, slots := 2752, locals := 96 } : Room) s m #[(.ref ot), vc, vm] below meth c s₁ [] 0 0 := Stand.of_body Bd
  have e0 : s₁.heap = h0 := by rw [← hh, Bd.state]; rfl
  have N0 := Fr.nil n0
  have KK0 : Keep h0 h0 [ot] := Keep.refl h0 _
  refine own_start (own_Qapi2 Z ot vc vm h0 n0) ?_
  refine own_to (V := s₁.setTop (mkF m 0 #[.val (.ref ot), .val vc, .val vm] [])) ?_ (fun t k => castTop (own_ef_api2 m ot vc vm rc rm) k)
  obtain ⟨⟨G1, O2, P5⟩, ⟨G3, O4, rG3⟩, ⟨iC, iL, iO1, iO2, iA, iE⟩, ⟨ec0, ec1, ec2, ec3, ec4, ec5, ec6, ec7, ec8, so0, so1, so2, so3, so4, so5, so6, so7, so8⟩, ⟨oe, oeS, oeE, oeP⟩, ⟨uS, uP, oUS, ruS, oUP, ruP⟩, -⟩ := id hst
  refine own_to (V := s₁.setTop (mkF m 4 #[.val (.ref ot), .val vc, .val vm] [.null, vm, vc, (.ref ot)])) ?_ fun t k => (by
    refine XS.aloadN X0.here hx rfl (hb hby own_d_prog_5_m1_0) rfl rfl ?_
    refine XS.aloadN X0.here hx rfl (hb hby own_d_prog_5_m1_1) rfl rc ?_
    refine XS.aloadN X0.here hx rfl (hb hby own_d_prog_5_m1_2) rfl rm ?_
    refine XS.aconstNull X0.here hx rfl (hb hby own_d_prog_5_m1_3) ?_
    exact k)
  obtain ⟨_, _, ⟨T101, L101, k101, n101⟩, -, X101, ⟨Lc101, hQ101, l101, y101, z101⟩, st101⟩ := X0.specialBack hx (y := (⟨"com/example/hamal/hamal/api/ApiException", "<init>", "(Lcom/example/hamal/hamal/api/ErrorCode;Ljava/lang/String;Ljava/lang/Integer;)V"⟩ : MethodName)) rfl hown (mvT hZ (hw _ (List.mem_of_getElem? (i := 44) rfl))) (mvT hZ (hw _ (List.mem_of_getElem? (i := 45) rfl))) (mvT hZ (hw _ (List.mem_of_getElem? (i := 46) rfl))) (by decide) (backOfKL (W := 0) (own_rmapi3 l Z a0 hw hst htr [] ot vc vm .null h0 n0 X00 rc rm rfl hE hU hF0 hF1 hF2 hF3 hF4 hC hR hG) hZ (hw _ (List.mem_of_getElem? (i := 46) rfl)) (hw _ (List.mem_of_getElem? (i := 33) rfl)) (by decide) (by decide) hK.1 hK.2) (g := (mkF m 4 #[.val (.ref ot), .val vc, .val vm] [.null, vm, vc, (.ref ot)])) rfl (by rw [hml]; rfl) (Steps.refl _) (a := ot) (argsL := [vc, vm, .null]) (rest := []) (lenOf own_pd3 rfl) rfl (by show 2 * 0 + _ ≤ _; exact Nat.le_of_eq rfl) (hb hby own_d_prog_5_m1_4) (fun _ _ => ⟨rfl, e0, (by decide : 0 + 1 ≤ _), (by decide : 0 + 2752 ≤ _)⟩)
  dsimp only [Pt.U, Pt.locs, Pt.cells, Pt.slots] at X101 l101 y101 z101 st101 hQ101
  subst l101 y101 z101
  obtain ⟨hv101, N101q, K101, g101_0⟩ := hQ101
  subst hv101
  obtain ⟨h101, e101⟩ : ∃ z, T101.heap = z := ⟨_, rfl⟩
  rw [e101] at K101 g101_0
  have Xo101 : Old Z n0 h101 := X00.keep K101 (allS hG all0)
  have KK101 : Keep h0 h101 [ot] := KK0.trans K101 (allS (Or.inl (List.mem_of_getElem? (i := 0) rfl)) all0)
  have N101 := Fr.app N0 N101q
  refine own_to (V := T101.setTop (mkF m 7 #[.val (.ref ot), .val vc, .val vm] [])) ?_ (fun t k => st101.trans k)
  exact own_retV X101 hx hret hlk (hb hby own_d_prog_5_m1_7) (by rw [e101]; exact (⟨rfl, N101, KK101, g101_0⟩)) (by decide) (by decide)
def own_Qsoon (Z : State) (vm : Value) (sc : Int32) (h0 : Heap) (n0 : Nat) (v : Option Value) (h : Heap) (L : List Loc) : Prop := (∃ (ox : Addr) (oi : Addr), v = some (.ref ox) ∧ Fr n0 L ∧ Keep h0 h [] ∧ (Exa Z h ox "com/example/hamal/hamal/api/ApiException") ∧ (Fld Z h ox "com/example/hamal/hamal/api/ApiException" "retryAfterSeconds" "Ljava/lang/Integer;" (.ref oi)) ∧ (Exa Z h oi "java/lang/Integer") ∧ (Fld Z h oi "java/lang/Integer" "value" "I" (.int sc)))
theorem own_ef_soon (m : MethodId) (vm : Value) (sc : Int32) (r0 : vm.isRef = true) : entryFrame m #[vm, (.int sc)] 2 = mkF m 0 #[.val vm, .val (.int sc)] [] := by first | (rcases ref_cases r0 with rfl | ⟨_, rfl⟩; all_goals first | (simp [entryFrame, mkF, argsToLocals, Value.category]; done) | rfl)
set_option maxRecDepth 65536 in
set_option maxHeartbeats 40000000 in
theorem own_rmsoon (l : Launch) (Z : State) (a0 : Array Value) (hw : ∀ d ∈ tables_1, d.before a0 Z = true) (hst : own_St Z) (htr : l.stackTraces = true) (ws : List Jvm.Cond) (vm : Value) (sc : Int32) (h0 : Heap) (n0 : Nat) (X00 : Old Z n0 h0) (rm : vm.isRef = true) :
    MetFree l (⟨"com/example/hamal/hamal/api/ApiException", "tooSoon", "(Ljava/lang/String;I)Lcom/example/hamal/hamal/api/ApiException;"⟩ : MethodName) (head1 (Jvm.Cond.code (⟨"com/example/hamal/hamal/api/ApiException", "tooSoon", "(Ljava/lang/String;I)Lcom/example/hamal/hamal/api/ApiException;"⟩ : MethodName) prog_5_method_7_code 2 (Option.some (Jvm.ClassFile.FieldType.object "com/example/hamal/hamal/api/ApiException")) :: ws) ({ frames := 7, cells := 3, slots := 2761, locals := 97 } : Room)) (fun a U => a = #[vm, (.int sc)] ∧ Z.Warmed39 U.vm ∧ U.heap = h0) (fun _ _ bl s _ => s.vm.MethodsKnown ∧ s.vm.FramesKnown bl) (fun _ U o U' => ∃ v L, o = .returned v ∧ own_Qsoon Z vm sc h0 n0 v U'.heap L ∧ FrameEnd U o U' L ({ frames := 7, cells := 3, slots := 2761, locals := 97 } : Room).cells ({ frames := 7, cells := 3, slots := 2761, locals := 97 } : Room).slots) := by
  refine MetFree.of_bodySF (plainFor_of_name own_pn6) hisR ?_
  intro p e s m args below meth c s₁ Bd hml0 hP hK
  obtain ⟨rfl, hZ, hh⟩ := hP
  have hx := Bd.exec
  have hby := Bd.bytes
  have hret := Bd.returns
  have hlk : meth.locks = false := BodyLoose.notSynchronized Bd
  have hml : c.maxLocals = 2 := hml0
  have hown : s.vm.findClass "com/example/hamal/hamal/api/ApiException" = some m.cls := findClass_of_methodNamed Bd.named
  have hnm := (name_of_methodNamed Bd.named Bd.method).1
  have X0 : Stand p l e ({ frames := 7, cells := 3, slots := 2761, locals := 97 } : Room) s m #[vm, (.int sc)] below meth c s₁ [] 0 0 := Stand.of_body Bd
  have e0 : s₁.heap = h0 := by rw [← hh, Bd.state]; rfl
  have N0 := Fr.nil n0
  have KK0 : Keep h0 h0 [] := Keep.refl h0 _
  refine own_start (own_Qsoon Z vm sc h0 n0) ?_
  refine own_to (V := s₁.setTop (mkF m 0 #[.val vm, .val (.int sc)] [])) ?_ (fun t k => castTop (own_ef_soon m vm sc rm) k)
  obtain ⟨⟨G1, O2, P5⟩, ⟨G3, O4, rG3⟩, ⟨iC, iL, iO1, iO2, iA, iE⟩, ⟨ec0, ec1, ec2, ec3, ec4, ec5, ec6, ec7, ec8, so0, so1, so2, so3, so4, so5, so6, so7, so8⟩, ⟨oe, oeS, oeE, oeP⟩, ⟨uS, uP, oUS, ruS, oUP, ruP⟩, -⟩ := id hst
  obtain ⟨T101, h101, X101, e101, E101, A101, D101, U101, st101⟩ := newO X0 hx hZ hown (hw _ (List.mem_of_getElem? (i := 108) rfl)) (hw _ (List.mem_of_getElem? (i := 32) rfl)) (hw _ (List.mem_of_getElem? (i := 33) rfl)) e0 (g := (mkF m 0 #[.val vm, .val (.int sc)] [])) rfl (hb hby own_d_prog_5_m7_0) (by decide) (by decide)
  obtain ⟨b101, g101⟩ : ∃ z, z = h0.size := ⟨_, rfl⟩
  rw [← g101] at A101 D101 U101 st101
  have Xo101 : Old Z n0 h101 := X00.ext E101
  have KK101 : Keep h0 h101 [] := KK0.ext E101
  have ge_b101 : n0 ≤ b101 := Nat.le_trans (own_ole X00) (Nat.le_of_eq g101.symm)
  have sz_b101 : h0.size ≤ b101 := Nat.le_trans KK0.1 (Nat.le_of_eq g101.symm)
  have Fi101_66 : Fld Z h101 b101 "java/lang/Throwable" "cause" "Ljava/lang/Throwable;" .null := D101 (Or.inl (hw _ (List.mem_of_getElem? (i := 66) rfl))) (ty := (.object "java/lang/Throwable")) (by decide)
  have Fi101_69 : Fld Z h101 b101 "java/lang/Throwable" "stackTrace" "[Ljava/lang/StackTraceElement;" .null := D101 (Or.inl (hw _ (List.mem_of_getElem? (i := 69) rfl))) (ty := (.array (.object "java/lang/StackTraceElement"))) (by decide)
  have Fi101_72 : Fld Z h101 b101 "java/lang/Throwable" "suppressedExceptions" "Ljava/util/List;" .null := D101 (Or.inl (hw _ (List.mem_of_getElem? (i := 72) rfl))) (ty := (.object "java/util/List")) (by decide)
  have Fi101_96 : Fld Z h101 b101 "java/lang/Throwable" "detailMessage" "Ljava/lang/String;" .null := D101 (Or.inl (hw _ (List.mem_of_getElem? (i := 96) rfl))) (ty := (.object "java/lang/String")) (by decide)
  have Fi101_97 : Fld Z h101 b101 "java/lang/Throwable" "backtrace" "Ljava/lang/Object;" .null := D101 (Or.inl (hw _ (List.mem_of_getElem? (i := 97) rfl))) (ty := (.object "java/lang/Object")) (by decide)
  have Fi101_98 : Fld Z h101 b101 "java/lang/Throwable" "depth" "I" (.int (0 : Int32)) := D101 (Or.inl (hw _ (List.mem_of_getElem? (i := 98) rfl))) (ty := .int) (by decide)
  have Fi101_102 : Fld Z h101 b101 "com/example/hamal/hamal/api/ApiException" "code" "Lcom/example/hamal/hamal/api/ErrorCode;" .null := D101 (Or.inr (hw _ (List.mem_of_getElem? (i := 102) rfl))) (ty := (.object "com/example/hamal/hamal/api/ErrorCode")) (by decide)
  have Fi101_104 : Fld Z h101 b101 "com/example/hamal/hamal/api/ApiException" "retryAfterSeconds" "Ljava/lang/Integer;" .null := D101 (Or.inr (hw _ (List.mem_of_getElem? (i := 104) rfl))) (ty := (.object "java/lang/Integer")) (by decide)
  refine own_to (V := T101.setTop (mkF m 3 #[.val vm, .val (.int sc)] [(.ref b101)])) ?_ st101
  refine own_to (V := T101.setTop (mkF m 4 #[.val vm, .val (.int sc)] [(.ref b101), (.ref b101)])) ?_ fun t k => (by
    refine XS.dup X101.here hx rfl (hb hby own_d_prog_5_m7_3) rfl rfl ?_
    exact k)
  obtain ⟨T102, X102, e102, st102⟩ := getS2 X101 hx hZ hown (host := "") (Or.inl (hw _ (List.mem_of_getElem? (i := 109) rfl))) Via.refl e101 (so6.ext Xo101.2) (g := (mkF m 4 #[.val vm, .val (.int sc)] [(.ref b101), (.ref b101)])) rfl (hb hby own_d_prog_5_m7_4)
  refine own_to (V := T102.setTop (mkF m 7 #[.val vm, .val (.int sc)] [(.ref ec6), (.ref b101), (.ref b101)])) ?_ st102
  refine own_to (V := T102.setTop (mkF m 9 #[.val vm, .val (.int sc)] [(.int sc), vm, (.ref ec6), (.ref b101), (.ref b101)])) ?_ fun t k => (by
    refine XS.aloadN X102.here hx rfl (hb hby own_d_prog_5_m7_7) rfl rm ?_
    refine XS.iloadN X102.here hx rfl (hb hby own_d_prog_5_m7_8) rfl ?_
    exact k)
  obtain ⟨_, _, ⟨T103, L103, k103, n103⟩, -, X103, ⟨Lc103, hQ103, l103, y103, z103⟩, st103⟩ := Jvm.LawKit.callS X102 hx (y := (⟨"java/lang/Integer", "valueOf", "(I)Ljava/lang/Integer;"⟩ : MethodName)) hown (mvT hZ (hw _ (List.mem_of_getElem? (i := 111) rfl))) (mvT hZ (hw _ (List.mem_of_getElem? (i := 112) rfl))) (mvT hZ (hw _ (List.mem_of_getElem? (i := 113) rfl))) (mvT hZ (hw _ (List.mem_of_getElem? (i := 114) rfl))) (by decide) (backOf (W := 4) (own_rmival l Z a0 hw hst [] sc h101 n0 Xo101 ) hZ (hw _ (List.mem_of_getElem? (i := 114) rfl)) (hw _ (List.mem_of_getElem? (i := 113) rfl)) (by decide) (by decide)) (g := (mkF m 9 #[.val vm, .val (.int sc)] [(.int sc), vm, (.ref ec6), (.ref b101), (.ref b101)])) rfl (by rw [hml]; rfl) (argsL := [(.int sc)]) (rest := [vm, (.ref ec6), (.ref b101), (.ref b101)]) (lenOf own_pd4 rfl) rfl (by show 2 * 0 + _ ≤ _; simp only [List.map_cons, List.map_nil, List.sum_cons, List.sum_nil, own_cat rm]; exact Nat.le_of_eq rfl) (hb hby own_d_prog_5_m7_9) (fun _ _ => ⟨rfl, e102, (by decide : 1 + 1 ≤ _), (by decide : 8 + 1 ≤ _)⟩)
  dsimp only [Pt.U, Pt.locs, Pt.cells, Pt.slots] at X103 l103 y103 z103 st103 hQ103
  subst l103 y103 z103
  obtain ⟨oi103, hv103, N103q, K103, g103_0, g103_1⟩ := hQ103
  subst hv103
  obtain ⟨h103, e103⟩ : ∃ z, T103.heap = z := ⟨_, rfl⟩
  rw [e103] at K103 g103_0 g103_1
  have Xo103 : Old Z n0 h103 := Xo101.keep K103 all0
  have KK103 : Keep h0 h103 [] := KK101.trans K103 all0
  have N103 := Fr.app N0 N103q
  refine own_to (V := T103.setTop (mkF m 12 #[.val vm, .val (.int sc)] [(.ref oi103), vm, (.ref ec6), (.ref b101), (.ref b101)])) ?_ st103
  have F105 : Exa Z h103 b101 "com/example/hamal/hamal/api/ApiException" := (A101.keep K103)
  have F106 : Unt h103 b101 := (Jvm.RoadKit.Unt.keep K103 List.not_mem_nil U101)
  have F107 : Fld Z h103 b101 "java/lang/Throwable" "cause" "Ljava/lang/Throwable;" .null := (Fi101_66.keep K103 List.not_mem_nil)
  have F108 : Fld Z h103 b101 "java/lang/Throwable" "stackTrace" "[Ljava/lang/StackTraceElement;" .null := (Fi101_69.keep K103 List.not_mem_nil)
  have F109 : Fld Z h103 b101 "java/lang/Throwable" "suppressedExceptions" "Ljava/util/List;" .null := (Fi101_72.keep K103 List.not_mem_nil)
  have F110 : Fld Z h103 b101 "java/lang/Throwable" "detailMessage" "Ljava/lang/String;" .null := (Fi101_96.keep K103 List.not_mem_nil)
  have F111 : Fld Z h103 b101 "java/lang/Throwable" "backtrace" "Ljava/lang/Object;" .null := (Fi101_97.keep K103 List.not_mem_nil)
  have F112 : Fld Z h103 b101 "com/example/hamal/hamal/api/ApiException" "code" "Lcom/example/hamal/hamal/api/ErrorCode;" .null := (Fi101_102.keep K103 List.not_mem_nil)
  have F113 : Fld Z h103 b101 "com/example/hamal/hamal/api/ApiException" "retryAfterSeconds" "Ljava/lang/Integer;" .null := (Fi101_104.keep K103 List.not_mem_nil)
  obtain ⟨_, _, ⟨T104, L104, k104, n104⟩, -, X104, ⟨Lc104, hQ104, l104, y104, z104⟩, st104⟩ := X103.specialBack hx (y := (⟨"com/example/hamal/hamal/api/ApiException", "<init>", "(Lcom/example/hamal/hamal/api/ErrorCode;Ljava/lang/String;Ljava/lang/Integer;)V"⟩ : MethodName)) rfl hown (mvT hZ (hw _ (List.mem_of_getElem? (i := 44) rfl))) (mvT hZ (hw _ (List.mem_of_getElem? (i := 45) rfl))) (mvT hZ (hw _ (List.mem_of_getElem? (i := 46) rfl))) (by decide) (backOfKL (W := 1) (own_rmapi3 l Z a0 hw hst htr [] b101 (.ref ec6) vm (.ref oi103) h103 n0 Xo103 rfl rm rfl F105 F106 F107 F108 F109 F110 F111 F112 F113 ge_b101) hZ (hw _ (List.mem_of_getElem? (i := 46) rfl)) (hw _ (List.mem_of_getElem? (i := 33) rfl)) (by decide) (by decide) hK.1 hK.2) (g := (mkF m 12 #[.val vm, .val (.int sc)] [(.ref oi103), vm, (.ref ec6), (.ref b101), (.ref b101)])) rfl (by rw [hml]; rfl) (Steps.refl _) (a := b101) (argsL := [(.ref ec6), vm, (.ref oi103)]) (rest := [(.ref b101)]) (lenOf own_pd3 rfl) rfl (by show 2 * 0 + _ ≤ _; exact Nat.le_of_eq rfl) (hb hby own_d_prog_5_m7_12) (fun _ _ => ⟨rfl, e103, (by decide : 2 + 1 ≤ _), (by decide : 9 + 2752 ≤ _)⟩)
  dsimp only [Pt.U, Pt.locs, Pt.cells, Pt.slots] at X104 l104 y104 z104 st104 hQ104
  subst l104 y104 z104
  obtain ⟨hv104, N104q, K104, g104_0⟩ := hQ104
  subst hv104
  obtain ⟨h104, e104⟩ : ∃ z, T104.heap = z := ⟨_, rfl⟩
  rw [e104] at K104 g104_0
  have Xo104 : Old Z n0 h104 := Xo103.keep K104 (allS ge_b101 all0)
  have KK104 : Keep h0 h104 [] := KK103.trans K104 (allS (Or.inr sz_b101) all0)
  have N104 := Fr.app N103 N104q
  refine own_to (V := T104.setTop (mkF m 15 #[.val vm, .val (.int sc)] [(.ref b101)])) ?_ (fun t k => st104.trans k)
  have F114 : Exa Z h104 b101 "com/example/hamal/hamal/api/ApiException" := (F105.keep K104)
  have F115 : Exa Z h104 oi103 "java/lang/Integer" := (g103_0.keep K104)
  have F116 : Fld Z h104 oi103 "java/lang/Integer" "value" "I" (.int sc) := (g103_1.keep K104 (own_nmS (Jvm.RoadKit.Exa.ne g103_0 F105 (by decide)) own_nm0))
  exact own_retR X104 hx hret (by decide) rfl hlk (hb hby own_d_prog_5_m7_15) (by rw [e104]; exact (⟨b101, oi103, rfl, N104, KK104, F114, g104_0, F115, F116⟩)) (by decide) (by decide)
def own_Qemp (Z : State)  (h0 : Heap) (n0 : Nat) (v : Option Value) (h : Heap) (L : List Loc) : Prop := (∃ (oo : Addr), v = some (.ref oo) ∧ Fr n0 L ∧ Keep h0 h [] ∧ (Exa Z h oo "java/util/OptionalInt") ∧ (Fld Z h oo "java/util/OptionalInt" "isPresent" "Z" (.int (0 : Int32))))
theorem own_ef_emp (m : MethodId)   : entryFrame m #[] 0 = mkF m 0 #[] [] := by first | (simp [entryFrame, mkF, argsToLocals, Value.category]; done) | rfl
set_option maxRecDepth 65536 in
set_option maxHeartbeats 40000000 in
theorem own_rmemp (l : Launch) (Z : State) (a0 : Array Value) (hw : ∀ d ∈ tables_1, d.before a0 Z = true) (hst : own_St Z) (ws : List Jvm.Cond)  (h0 : Heap) (n0 : Nat) (X00 : Old Z n0 h0)  :
    MetFree l (⟨"java/util/OptionalInt", "empty", "()Ljava/util/OptionalInt;"⟩ : MethodName) (head1 (Jvm.Cond.code (⟨"java/util/OptionalInt", "empty", "()Ljava/util/OptionalInt;"⟩ : MethodName) jdk_2649_method_2_code 0 (Option.some (Jvm.ClassFile.FieldType.object "java/util/OptionalInt")) :: ws) ({ frames := 0, cells := 0, slots := 0, locals := 0 } : Room)) (fun a U => a = #[] ∧ Z.Warmed39 U.vm ∧ U.heap = h0) (fun _ _ _ _ _ => True) (fun _ U o U' => ∃ v L, o = .returned v ∧ own_Qemp Z  h0 n0 v U'.heap L ∧ FrameEnd U o U' L ({ frames := 0, cells := 0, slots := 0, locals := 0 } : Room).cells ({ frames := 0, cells := 0, slots := 0, locals := 0 } : Room).slots) := by
  refine MetFree.of_bodySF (plainFor_of_name own_pn7) hisR ?_
  intro p e s m args below meth c s₁ Bd hml0 hP hK
  obtain ⟨rfl, hZ, hh⟩ := hP
  have hx := Bd.exec
  have hby := Bd.bytes
  have hret := Bd.returns
  have hlk : meth.locks = false := BodyLoose.notSynchronized Bd
  have hml : c.maxLocals = 0 := hml0
  have hown : s.vm.findClass "java/util/OptionalInt" = some m.cls := findClass_of_methodNamed Bd.named
  have hnm := (name_of_methodNamed Bd.named Bd.method).1
  have X0 : Stand p l e ({ frames := 0, cells := 0, slots := 0, locals := 0 } : Room) s m #[] below meth c s₁ [] 0 0 := Stand.of_body Bd
  have e0 : s₁.heap = h0 := by rw [← hh, Bd.state]; rfl
  have N0 := Fr.nil n0
  have KK0 : Keep h0 h0 [] := Keep.refl h0 _
  refine own_start (own_Qemp Z  h0 n0) ?_
  refine own_to (V := s₁.setTop (mkF m 0 #[] [])) ?_ (fun t k => castTop (own_ef_emp m  ) k)
  obtain ⟨⟨G1, O2, P5⟩, ⟨G3, O4, rG3⟩, ⟨iC, iL, iO1, iO2, iA, iE⟩, ⟨ec0, ec1, ec2, ec3, ec4, ec5, ec6, ec7, ec8, so0, so1, so2, so3, so4, so5, so6, so7, so8⟩, ⟨oe, oeS, oeE, oeP⟩, ⟨uS, uP, oUS, ruS, oUP, ruP⟩, -⟩ := id hst
  have oE' := oeE.ext X00.2
  have oP' := oeP.ext X00.2
  obtain ⟨T101, X101, e101, st101⟩ := getS2 X0 hx hZ hown (host := "") (Or.inl (hw _ (List.mem_of_getElem? (i := 127) rfl))) Via.refl e0 (oeS.ext X00.2) (g := (mkF m 0 #[] [])) rfl (hb hby own_d_jdk_2649_m2_0)
  refine own_to (V := T101.setTop (mkF m 3 #[] [(.ref oe)])) ?_ st101
  exact own_retR X101 hx hret (by decide) rfl hlk (hb hby own_d_jdk_2649_m2_3) (by rw [e101]; exact (⟨oe, rfl, N0, KK0, oE', oP'⟩)) (by decide) (by decide)
def own_Qintv (Z : State) (oi : Addr) (wi : Int32) (h0 : Heap) (n0 : Nat) (v : Option Value) (h : Heap) (L : List Loc) : Prop := (v = some (.int wi) ∧ Fr n0 L ∧ Keep h0 h [])
theorem own_ef_intv (m : MethodId) (oi : Addr)  : entryFrame m #[(.ref oi)] 1 = mkF m 0 #[.val (.ref oi)] [] := by first | (simp [entryFrame, mkF, argsToLocals, Value.category]; done) | rfl
set_option maxRecDepth 65536 in
set_option maxHeartbeats 40000000 in
theorem own_rmintv (l : Launch) (Z : State) (a0 : Array Value) (hw : ∀ d ∈ tables_1, d.before a0 Z = true) (hst : own_St Z) (ws : List Jvm.Cond) (oi : Addr) (wi : Int32) (h0 : Heap) (n0 : Nat) (X00 : Old Z n0 h0) (hE : Exa Z h0 oi "java/lang/Integer") (hF : Fld Z h0 oi "java/lang/Integer" "value" "I" (.int wi)) :
    MetFree l (⟨"java/lang/Integer", "intValue", "()I"⟩ : MethodName) (head1 (Jvm.Cond.code (⟨"java/lang/Integer", "intValue", "()I"⟩ : MethodName) jdk_33_method_27_code 1 (Option.some Jvm.ClassFile.FieldType.int) :: ws) ({ frames := 0, cells := 0, slots := 0, locals := 0 } : Room)) (fun a U => a = #[(.ref oi)] ∧ Z.Warmed39 U.vm ∧ U.heap = h0) (fun _ _ _ _ _ => True) (fun _ U o U' => ∃ v L, o = .returned v ∧ own_Qintv Z oi wi h0 n0 v U'.heap L ∧ FrameEnd U o U' L ({ frames := 0, cells := 0, slots := 0, locals := 0 } : Room).cells ({ frames := 0, cells := 0, slots := 0, locals := 0 } : Room).slots) := by
  refine MetFree.of_bodySF (plainFor_of_name own_pn1) hisR ?_
  intro p e s m args below meth c s₁ Bd hml0 hP hK
  obtain ⟨rfl, hZ, hh⟩ := hP
  have hx := Bd.exec
  have hby := Bd.bytes
  have hret := Bd.returns
  have hlk : meth.locks = false := BodyLoose.notSynchronized Bd
  have hml : c.maxLocals = 1 := hml0
  have hown : s.vm.findClass "java/lang/Integer" = some m.cls := findClass_of_methodNamed Bd.named
  have hnm := (name_of_methodNamed Bd.named Bd.method).1
  have X0 : Stand p l e ({ frames := 0, cells := 0, slots := 0, locals := 0 } : Room) s m #[(.ref oi)] below meth c s₁ [] 0 0 := Stand.of_body Bd
  have e0 : s₁.heap = h0 := by rw [← hh, Bd.state]; rfl
  have N0 := Fr.nil n0
  have KK0 : Keep h0 h0 [] := Keep.refl h0 _
  refine own_start (own_Qintv Z oi wi h0 n0) ?_
  refine own_to (V := s₁.setTop (mkF m 0 #[.val (.ref oi)] [])) ?_ (fun t k => castTop (own_ef_intv m oi ) k)
  obtain ⟨⟨G1, O2, P5⟩, ⟨G3, O4, rG3⟩, ⟨iC, iL, iO1, iO2, iA, iE⟩, ⟨ec0, ec1, ec2, ec3, ec4, ec5, ec6, ec7, ec8, so0, so1, so2, so3, so4, so5, so6, so7, so8⟩, ⟨oe, oeS, oeE, oeP⟩, ⟨uS, uP, oUS, ruS, oUP, ruP⟩, -⟩ := id hst
  refine own_to (V := s₁.setTop (mkF m 1 #[.val (.ref oi)] [(.ref oi)])) ?_ fun t k => (by
    refine XS.aloadN X0.here hx rfl (hb hby own_d_jdk_33_m27_0) rfl rfl ?_
    exact k)
  obtain ⟨T101, X101, e101, st101⟩ := getF X0 hx hZ hown (host := "") (Or.inl (hw _ (List.mem_of_getElem? (i := 133) rfl))) Via.refl e0 hF (g := (mkF m 1 #[.val (.ref oi)] [(.ref oi)])) rfl rfl (hb hby own_d_jdk_33_m27_1)
  refine own_to (V := T101.setTop (mkF m 4 #[.val (.ref oi)] [(.int wi)])) ?_ st101
  exact own_retI X101 hx hret hlk (hb hby own_d_jdk_33_m27_4) (by rw [e101]; exact (⟨rfl, N0, KK0⟩)) (by decide) (by decide)
def own_Qoini (Z : State) (ot : Addr) (wi : Int32) (h0 : Heap) (n0 : Nat) (v : Option Value) (h : Heap) (L : List Loc) : Prop := (v = none ∧ Fr n0 L ∧ Keep h0 h [ot] ∧ (Fld Z h ot "java/util/OptionalInt" "isPresent" "Z" (.int (1 : Int32))) ∧ (Fld Z h ot "java/util/OptionalInt" "value" "I" (.int wi)))
theorem own_ef_oini (m : MethodId) (ot : Addr) (wi : Int32)  : entryFrame m #[(.ref ot), (.int wi)] 2 = mkF m 0 #[.val (.ref ot), .val (.int wi)] [] := by first | (simp [entryFrame, mkF, argsToLocals, Value.category]; done) | rfl
set_option maxRecDepth 65536 in
set_option maxHeartbeats 40000000 in
theorem own_rmoini (l : Launch) (Z : State) (a0 : Array Value) (hw : ∀ d ∈ tables_1, d.before a0 Z = true) (hst : own_St Z) (ws : List Jvm.Cond) (ot : Addr) (wi : Int32) (h0 : Heap) (n0 : Nat) (X00 : Old Z n0 h0) (hE : Exa Z h0 ot "java/util/OptionalInt") (hF : Fld Z h0 ot "java/util/OptionalInt" "isPresent" "Z" (.int (0 : Int32))) (hV : Fld Z h0 ot "java/util/OptionalInt" "value" "I" (.int (0 : Int32))) (hG : n0 ≤ ot) :
    MetFree l (⟨"java/util/OptionalInt", "<init>", "(I)V"⟩ : MethodName) (head1 (Jvm.Cond.code (⟨"java/util/OptionalInt", "<init>", "(I)V"⟩ : MethodName) jdk_2649_method_3_code 2 (Option.none : Option Jvm.ClassFile.FieldType) :: ws) ({ frames := 1, cells := 0, slots := 0, locals := 12 } : Room)) (fun a U => a = #[(.ref ot), (.int wi)] ∧ Z.Warmed39 U.vm ∧ U.heap = h0) (fun _ _ _ _ _ => True) (fun _ U o U' => ∃ v L, o = .returned v ∧ own_Qoini Z ot wi h0 n0 v U'.heap L ∧ FrameEnd U o U' L ({ frames := 1, cells := 0, slots := 0, locals := 12 } : Room).cells ({ frames := 1, cells := 0, slots := 0, locals := 12 } : Room).slots) := by
  refine MetFree.of_bodySF (plainFor_of_name own_pn7) hisR ?_
  intro p e s m args below meth c s₁ Bd hml0 hP hK
  obtain ⟨rfl, hZ, hh⟩ := hP
  have hx := Bd.exec
  have hby := Bd.bytes
  have hret := Bd.returns
  have hlk : meth.locks = false := BodyLoose.notSynchronized Bd
  have hml : c.maxLocals = 2 := hml0
  have hown : s.vm.findClass "java/util/OptionalInt" = some m.cls := findClass_of_methodNamed Bd.named
  have hnm := (name_of_methodNamed Bd.named Bd.method).1
  have X0 : Stand p l e ({ frames := 1, cells := 0, slots := 0, locals := 12 } : Room) s m #[(.ref ot), (.int wi)] below meth c s₁ [] 0 0 := Stand.of_body Bd
  have e0 : s₁.heap = h0 := by rw [← hh, Bd.state]; rfl
  have N0 := Fr.nil n0
  have KK0 : Keep h0 h0 [ot] := Keep.refl h0 _
  refine own_start (own_Qoini Z ot wi h0 n0) ?_
  refine own_to (V := s₁.setTop (mkF m 0 #[.val (.ref ot), .val (.int wi)] [])) ?_ (fun t k => castTop (own_ef_oini m ot wi ) k)
  obtain ⟨⟨G1, O2, P5⟩, ⟨G3, O4, rG3⟩, ⟨iC, iL, iO1, iO2, iA, iE⟩, ⟨ec0, ec1, ec2, ec3, ec4, ec5, ec6, ec7, ec8, so0, so1, so2, so3, so4, so5, so6, so7, so8⟩, ⟨oe, oeS, oeE, oeP⟩, ⟨uS, uP, oUS, ruS, oUP, ruP⟩, -⟩ := id hst
  refine own_to (V := s₁.setTop (mkF m 1 #[.val (.ref ot), .val (.int wi)] [(.ref ot)])) ?_ fun t k => (by
    refine XS.aloadN X0.here hx rfl (hb hby own_d_jdk_2649_m3_0) rfl rfl ?_
    exact k)
  obtain ⟨T101, X101, e101, st101⟩ := initO X0 hx hZ hown (hw _ (List.mem_of_getElem? (i := 144) rfl)) (hw _ (List.mem_of_getElem? (i := 12) rfl)) (hw _ (List.mem_of_getElem? (i := 13) rfl)) e0 (g := (mkF m 1 #[.val (.ref ot), .val (.int wi)] [(.ref ot)])) rfl (by rw [hml]; rfl) rfl (hb hby own_d_jdk_2649_m3_1) (by decide) (W := 0) (by show 2 * 0 + _ ≤ _; exact Nat.le_of_eq rfl) (by decide)
  refine own_to (V := T101.setTop (mkF m 4 #[.val (.ref ot), .val (.int wi)] [])) ?_ st101
  refine own_to (V := T101.setTop (mkF m 6 #[.val (.ref ot), .val (.int wi)] [(.int (1 : Int32)), (.ref ot)])) ?_ fun t k => (by
    refine XS.aloadN X101.here hx rfl (hb hby own_d_jdk_2649_m3_4) rfl rfl ?_
    refine XS.iconst X101.here hx rfl (hb hby own_d_jdk_2649_m3_5) ?_
    exact k)
  obtain ⟨T102, h102, X102, e102, W102, st102⟩ := putF X101 hx hZ hown (host := "") (Or.inl (hw _ (List.mem_of_getElem? (i := 145) rfl))) Via.refl e101 hF hE (Or.inr ⟨(hw _ (List.mem_of_getElem? (i := 146) rfl)), rfl, hnm⟩) (hw _ (List.mem_of_getElem? (i := 139) rfl)) (ty := .boolean) (by decide) rfl rfl (g := (mkF m 6 #[.val (.ref ot), .val (.int wi)] [(.int (1 : Int32)), (.ref ot)])) rfl rfl (hb hby own_d_jdk_2649_m3_6)
  have Xo102 : Old Z n0 h102 := X00.wr W102 hG
  have KK102 : Keep h0 h102 [ot] := KK0.wr W102 (Or.inl (List.mem_of_getElem? (i := 0) rfl))
  have Fw102 : Fld Z h102 ot "java/util/OptionalInt" "isPresent" "Z" (.int (1 : Int32)) := hF.same W102
  have N102 := Fr.snoc X102 N0 hG
  refine own_to (V := T102.setTop (mkF m 9 #[.val (.ref ot), .val (.int wi)] [])) ?_ st102
  refine own_to (V := T102.setTop (mkF m 11 #[.val (.ref ot), .val (.int wi)] [(.int wi), (.ref ot)])) ?_ fun t k => (by
    refine XS.aloadN X102.here hx rfl (hb hby own_d_jdk_2649_m3_9) rfl rfl ?_
    refine XS.iloadN X102.here hx rfl (hb hby own_d_jdk_2649_m3_10) rfl ?_
    exact k)
  have F103 : Exa Z h102 ot "java/util/OptionalInt" := (hE.wr W102)
  have F104 : Fld Z h102 ot "java/util/OptionalInt" "value" "I" (.int (0 : Int32)) := (hV.other W102 (Or.inr (slot_ne (Or.inr (hw _ (List.mem_of_getElem? (i := 148) rfl))) (Or.inr (hw _ (List.mem_of_getElem? (i := 146) rfl))) (by decide) (t := .int) (t' := .boolean) (by decide) (by decide))))
  obtain ⟨T105, h105, X105, e105, W105, st105⟩ := putF X102 hx hZ hown (host := "") (Or.inl (hw _ (List.mem_of_getElem? (i := 147) rfl))) Via.refl e102 F104 F103 (Or.inr ⟨(hw _ (List.mem_of_getElem? (i := 148) rfl)), rfl, hnm⟩) (hw _ (List.mem_of_getElem? (i := 139) rfl)) (ty := .int) (by decide) rfl rfl (g := (mkF m 11 #[.val (.ref ot), .val (.int wi)] [(.int wi), (.ref ot)])) rfl rfl (hb hby own_d_jdk_2649_m3_11)
  have Xo105 : Old Z n0 h105 := Xo102.wr W105 hG
  have KK105 : Keep h0 h105 [ot] := KK102.wr W105 (Or.inl (List.mem_of_getElem? (i := 0) rfl))
  have Fw105 : Fld Z h105 ot "java/util/OptionalInt" "value" "I" (.int wi) := F104.same W105
  have N105 := Fr.snoc X105 N102 hG
  refine own_to (V := T105.setTop (mkF m 14 #[.val (.ref ot), .val (.int wi)] [])) ?_ st105
  have F106 : Fld Z h105 ot "java/util/OptionalInt" "isPresent" "Z" (.int (1 : Int32)) := (Fw102.other W105 (Or.inr (slot_ne (Or.inr (hw _ (List.mem_of_getElem? (i := 146) rfl))) (Or.inr (hw _ (List.mem_of_getElem? (i := 148) rfl))) (by decide) (t := .boolean) (t' := .int) (by decide) (by decide))))
  exact own_retV X105 hx hret hlk (hb hby own_d_jdk_2649_m3_14) (by rw [e105]; exact (⟨rfl, N105, KK105, F106, Fw105⟩)) (by decide) (by decide)
def own_Qofi (Z : State) (wi : Int32) (h0 : Heap) (n0 : Nat) (v : Option Value) (h : Heap) (L : List Loc) : Prop := (∃ (oo : Addr), v = some (.ref oo) ∧ Fr n0 L ∧ Keep h0 h [] ∧ (Exa Z h oo "java/util/OptionalInt") ∧ (Fld Z h oo "java/util/OptionalInt" "isPresent" "Z" (.int (1 : Int32))) ∧ (Fld Z h oo "java/util/OptionalInt" "value" "I" (.int wi)))
theorem own_ef_ofi (m : MethodId) (wi : Int32)  : entryFrame m #[(.int wi)] 1 = mkF m 0 #[.val (.int wi)] [] := by first | (simp [entryFrame, mkF, argsToLocals, Value.category]; done) | rfl
set_option maxRecDepth 65536 in
set_option maxHeartbeats 40000000 in
theorem own_rmofi (l : Launch) (Z : State) (a0 : Array Value) (hw : ∀ d ∈ tables_1, d.before a0 Z = true) (hst : own_St Z) (ws : List Jvm.Cond) (wi : Int32) (h0 : Heap) (n0 : Nat) (X00 : Old Z n0 h0)  :
    MetFree l (⟨"java/util/OptionalInt", "of", "(I)Ljava/util/OptionalInt;"⟩ : MethodName) (head1 (Jvm.Cond.code (⟨"java/util/OptionalInt", "of", "(I)Ljava/util/OptionalInt;"⟩ : MethodName) jdk_2649_method_4_code 1 (Option.some (Jvm.ClassFile.FieldType.object "java/util/OptionalInt")) :: ws) ({ frames := 2, cells := 1, slots := 2, locals := 26 } : Room)) (fun a U => a = #[(.int wi)] ∧ Z.Warmed39 U.vm ∧ U.heap = h0) (fun _ _ _ _ _ => True) (fun _ U o U' => ∃ v L, o = .returned v ∧ own_Qofi Z wi h0 n0 v U'.heap L ∧ FrameEnd U o U' L ({ frames := 2, cells := 1, slots := 2, locals := 26 } : Room).cells ({ frames := 2, cells := 1, slots := 2, locals := 26 } : Room).slots) := by
  refine MetFree.of_bodySF (plainFor_of_name own_pn7) hisR ?_
  intro p e s m args below meth c s₁ Bd hml0 hP hK
  obtain ⟨rfl, hZ, hh⟩ := hP
  have hx := Bd.exec
  have hby := Bd.bytes
  have hret := Bd.returns
  have hlk : meth.locks = false := BodyLoose.notSynchronized Bd
  have hml : c.maxLocals = 1 := hml0
  have hown : s.vm.findClass "java/util/OptionalInt" = some m.cls := findClass_of_methodNamed Bd.named
  have hnm := (name_of_methodNamed Bd.named Bd.method).1
  have X0 : Stand p l e ({ frames := 2, cells := 1, slots := 2, locals := 26 } : Room) s m #[(.int wi)] below meth c s₁ [] 0 0 := Stand.of_body Bd
  have e0 : s₁.heap = h0 := by rw [← hh, Bd.state]; rfl
  have N0 := Fr.nil n0
  have KK0 : Keep h0 h0 [] := Keep.refl h0 _
  refine own_start (own_Qofi Z wi h0 n0) ?_
  refine own_to (V := s₁.setTop (mkF m 0 #[.val (.int wi)] [])) ?_ (fun t k => castTop (own_ef_ofi m wi ) k)
  obtain ⟨⟨G1, O2, P5⟩, ⟨G3, O4, rG3⟩, ⟨iC, iL, iO1, iO2, iA, iE⟩, ⟨ec0, ec1, ec2, ec3, ec4, ec5, ec6, ec7, ec8, so0, so1, so2, so3, so4, so5, so6, so7, so8⟩, ⟨oe, oeS, oeE, oeP⟩, ⟨uS, uP, oUS, ruS, oUP, ruP⟩, -⟩ := id hst
  obtain ⟨T101, h101, X101, e101, E101, A101, D101, U101, st101⟩ := newO X0 hx hZ hown (hw _ (List.mem_of_getElem? (i := 138) rfl)) (hw _ (List.mem_of_getElem? (i := 139) rfl)) (hw _ (List.mem_of_getElem? (i := 125) rfl)) e0 (g := (mkF m 0 #[.val (.int wi)] [])) rfl (hb hby own_d_jdk_2649_m4_0) (by decide) (by decide)
  obtain ⟨b101, g101⟩ : ∃ z, z = h0.size := ⟨_, rfl⟩
  rw [← g101] at A101 D101 U101 st101
  have Xo101 : Old Z n0 h101 := X00.ext E101
  have KK101 : Keep h0 h101 [] := KK0.ext E101
  have ge_b101 : n0 ≤ b101 := Nat.le_trans (own_ole X00) (Nat.le_of_eq g101.symm)
  have sz_b101 : h0.size ≤ b101 := Nat.le_trans KK0.1 (Nat.le_of_eq g101.symm)
  have Fi101_146 : Fld Z h101 b101 "java/util/OptionalInt" "isPresent" "Z" (.int (0 : Int32)) := D101 (Or.inr (hw _ (List.mem_of_getElem? (i := 146) rfl))) (ty := .boolean) (by decide)
  have Fi101_148 : Fld Z h101 b101 "java/util/OptionalInt" "value" "I" (.int (0 : Int32)) := D101 (Or.inr (hw _ (List.mem_of_getElem? (i := 148) rfl))) (ty := .int) (by decide)
  refine own_to (V := T101.setTop (mkF m 3 #[.val (.int wi)] [(.ref b101)])) ?_ st101
  refine own_to (V := T101.setTop (mkF m 5 #[.val (.int wi)] [(.int wi), (.ref b101), (.ref b101)])) ?_ fun t k => (by
    refine XS.dup X101.here hx rfl (hb hby own_d_jdk_2649_m4_3) rfl rfl ?_
    refine XS.iloadN X101.here hx rfl (hb hby own_d_jdk_2649_m4_4) rfl ?_
    exact k)
  obtain ⟨_, _, ⟨T102, L102, k102, n102⟩, -, X102, ⟨Lc102, hQ102, l102, y102, z102⟩, st102⟩ := X101.specialBack hx (y := (⟨"java/util/OptionalInt", "<init>", "(I)V"⟩ : MethodName)) rfl hown (mvT hZ (hw _ (List.mem_of_getElem? (i := 140) rfl))) (mvT hZ (hw _ (List.mem_of_getElem? (i := 141) rfl))) (mvT hZ (hw _ (List.mem_of_getElem? (i := 143) rfl))) (by decide) (backOf (W := 1) (own_rmoini l Z a0 hw hst [] b101 wi h101 n0 Xo101 A101 Fi101_146 Fi101_148 ge_b101) hZ (hw _ (List.mem_of_getElem? (i := 143) rfl)) (hw _ (List.mem_of_getElem? (i := 125) rfl)) (by decide) (by decide)) (g := (mkF m 5 #[.val (.int wi)] [(.int wi), (.ref b101), (.ref b101)])) rfl (by rw [hml]; rfl) (Steps.refl _) (a := b101) (argsL := [(.int wi)]) (rest := [(.ref b101)]) (lenOf own_pd1 rfl) rfl (by show 2 * 0 + _ ≤ _; exact Nat.le_of_eq rfl) (hb hby own_d_jdk_2649_m4_5) (fun _ _ => ⟨rfl, e101, (by decide : 1 + 0 ≤ _), (by decide : 2 + 0 ≤ _)⟩)
  dsimp only [Pt.U, Pt.locs, Pt.cells, Pt.slots] at X102 l102 y102 z102 st102 hQ102
  subst l102 y102 z102
  obtain ⟨hv102, N102q, K102, g102_0, g102_1⟩ := hQ102
  subst hv102
  obtain ⟨h102, e102⟩ : ∃ z, T102.heap = z := ⟨_, rfl⟩
  rw [e102] at K102 g102_0 g102_1
  have Xo102 : Old Z n0 h102 := Xo101.keep K102 (allS ge_b101 all0)
  have KK102 : Keep h0 h102 [] := KK101.trans K102 (allS (Or.inr sz_b101) all0)
  have N102 := Fr.app N0 N102q
  refine own_to (V := T102.setTop (mkF m 8 #[.val (.int wi)] [(.ref b101)])) ?_ (fun t k => st102.trans k)
  have F103 : Exa Z h102 b101 "java/util/OptionalInt" := (A101.keep K102)
  exact own_retR X102 hx hret (by decide) rfl hlk (hb hby own_d_jdk_2649_m4_8) (by rw [e102]; exact (⟨b101, rfl, N102, KK102, F103, g102_0, g102_1⟩)) (by decide) (by decide)
def own_Qra0 (Z : State) (ox : Addr) (h0 : Heap) (n0 : Nat) (v : Option Value) (h : Heap) (L : List Loc) : Prop := (∃ (oo : Addr), v = some (.ref oo) ∧ Fr n0 L ∧ Keep h0 h [] ∧ (Exa Z h oo "java/util/OptionalInt") ∧ (Fld Z h oo "java/util/OptionalInt" "isPresent" "Z" (.int (0 : Int32))))
theorem own_ef_ra0 (m : MethodId) (ox : Addr)  : entryFrame m #[(.ref ox)] 1 = mkF m 0 #[.val (.ref ox)] [] := by first | (simp [entryFrame, mkF, argsToLocals, Value.category]; done) | rfl
set_option maxRecDepth 65536 in
set_option maxHeartbeats 40000000 in
theorem own_rmra0 (l : Launch) (Z : State) (a0 : Array Value) (hw : ∀ d ∈ tables_1, d.before a0 Z = true) (hst : own_St Z) (ws : List Jvm.Cond) (ox : Addr) (h0 : Heap) (n0 : Nat) (X00 : Old Z n0 h0) (hE : Exa Z h0 ox "com/example/hamal/hamal/api/ApiException") (hF : Fld Z h0 ox "com/example/hamal/hamal/api/ApiException" "retryAfterSeconds" "Ljava/lang/Integer;" .null) :
    MetFree l (⟨"com/example/hamal/hamal/api/ApiException", "retryAfterSeconds", "()Ljava/util/OptionalInt;"⟩ : MethodName) (head1 (Jvm.Cond.code (⟨"com/example/hamal/hamal/api/ApiException", "retryAfterSeconds", "()Ljava/util/OptionalInt;"⟩ : MethodName) prog_5_method_6_code 1 (Option.some (Jvm.ClassFile.FieldType.object "java/util/OptionalInt")) :: ws) ({ frames := 1, cells := 0, slots := 0, locals := 11 } : Room)) (fun a U => a = #[(.ref ox)] ∧ Z.Warmed39 U.vm ∧ U.heap = h0) (fun _ _ _ _ _ => True) (fun _ U o U' => ∃ v L, o = .returned v ∧ own_Qra0 Z ox h0 n0 v U'.heap L ∧ FrameEnd U o U' L ({ frames := 1, cells := 0, slots := 0, locals := 11 } : Room).cells ({ frames := 1, cells := 0, slots := 0, locals := 11 } : Room).slots) := by
  refine MetFree.of_bodySF (plainFor_of_name own_pn6) hisR ?_
  intro p e s m args below meth c s₁ Bd hml0 hP hK
  obtain ⟨rfl, hZ, hh⟩ := hP
  have hx := Bd.exec
  have hby := Bd.bytes
  have hret := Bd.returns
  have hlk : meth.locks = false := BodyLoose.notSynchronized Bd
  have hml : c.maxLocals = 1 := hml0
  have hown : s.vm.findClass "com/example/hamal/hamal/api/ApiException" = some m.cls := findClass_of_methodNamed Bd.named
  have hnm := (name_of_methodNamed Bd.named Bd.method).1
  have X0 : Stand p l e ({ frames := 1, cells := 0, slots := 0, locals := 11 } : Room) s m #[(.ref ox)] below meth c s₁ [] 0 0 := Stand.of_body Bd
  have e0 : s₁.heap = h0 := by rw [← hh, Bd.state]; rfl
  have N0 := Fr.nil n0
  have KK0 : Keep h0 h0 [] := Keep.refl h0 _
  refine own_start (own_Qra0 Z ox h0 n0) ?_
  refine own_to (V := s₁.setTop (mkF m 0 #[.val (.ref ox)] [])) ?_ (fun t k => castTop (own_ef_ra0 m ox ) k)
  obtain ⟨⟨G1, O2, P5⟩, ⟨G3, O4, rG3⟩, ⟨iC, iL, iO1, iO2, iA, iE⟩, ⟨ec0, ec1, ec2, ec3, ec4, ec5, ec6, ec7, ec8, so0, so1, so2, so3, so4, so5, so6, so7, so8⟩, ⟨oe, oeS, oeE, oeP⟩, ⟨uS, uP, oUS, ruS, oUP, ruP⟩, -⟩ := id hst
  refine own_to (V := s₁.setTop (mkF m 1 #[.val (.ref ox)] [(.ref ox)])) ?_ fun t k => (by
    refine XS.aloadN X0.here hx rfl (hb hby own_d_prog_5_m6_0) rfl rfl ?_
    exact k)
  obtain ⟨T101, X101, e101, st101⟩ := getF X0 hx hZ hown (host := "") (Or.inl (hw _ (List.mem_of_getElem? (i := 103) rfl))) Via.refl e0 hF (g := (mkF m 1 #[.val (.ref ox)] [(.ref ox)])) rfl rfl (hb hby own_d_prog_5_m6_1)
  refine own_to (V := T101.setTop (mkF m 4 #[.val (.ref ox)] [.null])) ?_ st101
  refine own_to (V := T101.setTop (mkF m 7 #[.val (.ref ox)] [])) ?_ fun t k => (by
    refine XS.ifnonnullNo X101.here hx rfl (hb hby own_d_prog_5_m6_4) rfl ?_
    exact k)
  obtain ⟨_, _, ⟨T102, L102, k102, n102⟩, -, X102, ⟨Lc102, hQ102, l102, y102, z102⟩, st102⟩ := Jvm.LawKit.callS X101 hx (y := (⟨"java/util/OptionalInt", "empty", "()Ljava/util/OptionalInt;"⟩ : MethodName)) hown (mvT hZ (hw _ (List.mem_of_getElem? (i := 123) rfl))) (mvT hZ (hw _ (List.mem_of_getElem? (i := 124) rfl))) (mvT hZ (hw _ (List.mem_of_getElem? (i := 125) rfl))) (mvT hZ (hw _ (List.mem_of_getElem? (i := 126) rfl))) (by decide) (backOf (W := 0) (own_rmemp l Z a0 hw hst []  h0 n0 X00 ) hZ (hw _ (List.mem_of_getElem? (i := 126) rfl)) (hw _ (List.mem_of_getElem? (i := 125) rfl)) (by decide) (by decide)) (g := (mkF m 7 #[.val (.ref ox)] [])) rfl (by rw [hml]; rfl) (argsL := []) (rest := []) (lenOf own_pd5 rfl) rfl (by show 2 * 0 + _ ≤ _; exact Nat.le_of_eq rfl) (hb hby own_d_prog_5_m6_7) (fun _ _ => ⟨rfl, e101, (by decide : 0 + 0 ≤ _), (by decide : 0 + 0 ≤ _)⟩)
  dsimp only [Pt.U, Pt.locs, Pt.cells, Pt.slots] at X102 l102 y102 z102 st102 hQ102
  subst l102 y102 z102
  obtain ⟨oo102, hv102, N102q, K102, g102_0, g102_1⟩ := hQ102
  subst hv102
  obtain ⟨h102, e102⟩ : ∃ z, T102.heap = z := ⟨_, rfl⟩
  rw [e102] at K102 g102_0 g102_1
  have Xo102 : Old Z n0 h102 := X00.keep K102 all0
  have KK102 : Keep h0 h102 [] := KK0.trans K102 all0
  have N102 := Fr.app N0 N102q
  refine own_to (V := T102.setTop (mkF m 10 #[.val (.ref ox)] [(.ref oo102)])) ?_ st102
  refine own_to (V := T102.setTop (mkF m 23 #[.val (.ref ox)] [(.ref oo102)])) ?_ fun t k => (by
    refine XS.goto X102.here hx rfl (pc0 := 10) (pc' := 23) rfl (hb hby own_d_prog_5_m6_10) (by decide) (by decide) ?_
    exact k)
  exact own_retR X102 hx hret (by decide) rfl hlk (hb hby own_d_prog_5_m6_23) (by rw [e102]; exact (⟨oo102, rfl, N102, KK102, g102_0, g102_1⟩)) (by decide) (by decide)
def own_Qra1 (Z : State) (ox : Addr) (oi : Addr) (wi : Int32) (h0 : Heap) (n0 : Nat) (v : Option Value) (h : Heap) (L : List Loc) : Prop := (∃ (oo : Addr), v = some (.ref oo) ∧ Fr n0 L ∧ Keep h0 h [] ∧ (Exa Z h oo "java/util/OptionalInt") ∧ (Fld Z h oo "java/util/OptionalInt" "isPresent" "Z" (.int (1 : Int32))) ∧ (Fld Z h oo "java/util/OptionalInt" "value" "I" (.int wi)))
theorem own_ef_ra1 (m : MethodId) (ox : Addr)  : entryFrame m #[(.ref ox)] 1 = mkF m 0 #[.val (.ref ox)] [] := by first | (simp [entryFrame, mkF, argsToLocals, Value.category]; done) | rfl
set_option maxRecDepth 65536 in
set_option maxHeartbeats 40000000 in
theorem own_rmra1 (l : Launch) (Z : State) (a0 : Array Value) (hw : ∀ d ∈ tables_1, d.before a0 Z = true) (hst : own_St Z) (ws : List Jvm.Cond) (ox : Addr) (oi : Addr) (wi : Int32) (h0 : Heap) (n0 : Nat) (X00 : Old Z n0 h0) (hE : Exa Z h0 ox "com/example/hamal/hamal/api/ApiException") (hF : Fld Z h0 ox "com/example/hamal/hamal/api/ApiException" "retryAfterSeconds" "Ljava/lang/Integer;" (.ref oi)) (hI : Exa Z h0 oi "java/lang/Integer") (hV : Fld Z h0 oi "java/lang/Integer" "value" "I" (.int wi)) :
    MetFree l (⟨"com/example/hamal/hamal/api/ApiException", "retryAfterSeconds", "()Ljava/util/OptionalInt;"⟩ : MethodName) (head1 (Jvm.Cond.code (⟨"com/example/hamal/hamal/api/ApiException", "retryAfterSeconds", "()Ljava/util/OptionalInt;"⟩ : MethodName) prog_5_method_6_code 1 (Option.some (Jvm.ClassFile.FieldType.object "java/util/OptionalInt")) :: ws) ({ frames := 3, cells := 1, slots := 2, locals := 38 } : Room)) (fun a U => a = #[(.ref ox)] ∧ Z.Warmed39 U.vm ∧ U.heap = h0) (fun _ _ _ _ _ => True) (fun _ U o U' => ∃ v L, o = .returned v ∧ own_Qra1 Z ox oi wi h0 n0 v U'.heap L ∧ FrameEnd U o U' L ({ frames := 3, cells := 1, slots := 2, locals := 38 } : Room).cells ({ frames := 3, cells := 1, slots := 2, locals := 38 } : Room).slots) := by
  refine MetFree.of_bodySF (plainFor_of_name own_pn6) hisR ?_
  intro p e s m args below meth c s₁ Bd hml0 hP hK
  obtain ⟨rfl, hZ, hh⟩ := hP
  have hx := Bd.exec
  have hby := Bd.bytes
  have hret := Bd.returns
  have hlk : meth.locks = false := BodyLoose.notSynchronized Bd
  have hml : c.maxLocals = 1 := hml0
  have hown : s.vm.findClass "com/example/hamal/hamal/api/ApiException" = some m.cls := findClass_of_methodNamed Bd.named
  have hnm := (name_of_methodNamed Bd.named Bd.method).1
  have X0 : Stand p l e ({ frames := 3, cells := 1, slots := 2, locals := 38 } : Room) s m #[(.ref ox)] below meth c s₁ [] 0 0 := Stand.of_body Bd
  have e0 : s₁.heap = h0 := by rw [← hh, Bd.state]; rfl
  have N0 := Fr.nil n0
  have KK0 : Keep h0 h0 [] := Keep.refl h0 _
  refine own_start (own_Qra1 Z ox oi wi h0 n0) ?_
  refine own_to (V := s₁.setTop (mkF m 0 #[.val (.ref ox)] [])) ?_ (fun t k => castTop (own_ef_ra1 m ox ) k)
  obtain ⟨⟨G1, O2, P5⟩, ⟨G3, O4, rG3⟩, ⟨iC, iL, iO1, iO2, iA, iE⟩, ⟨ec0, ec1, ec2, ec3, ec4, ec5, ec6, ec7, ec8, so0, so1, so2, so3, so4, so5, so6, so7, so8⟩, ⟨oe, oeS, oeE, oeP⟩, ⟨uS, uP, oUS, ruS, oUP, ruP⟩, -⟩ := id hst
  refine own_to (V := s₁.setTop (mkF m 1 #[.val (.ref ox)] [(.ref ox)])) ?_ fun t k => (by
    refine XS.aloadN X0.here hx rfl (hb hby own_d_prog_5_m6_0) rfl rfl ?_
    exact k)
  obtain ⟨T101, X101, e101, st101⟩ := getF X0 hx hZ hown (host := "") (Or.inl (hw _ (List.mem_of_getElem? (i := 103) rfl))) Via.refl e0 hF (g := (mkF m 1 #[.val (.ref ox)] [(.ref ox)])) rfl rfl (hb hby own_d_prog_5_m6_1)
  refine own_to (V := T101.setTop (mkF m 4 #[.val (.ref ox)] [(.ref oi)])) ?_ st101
  refine own_to (V := T101.setTop (mkF m 14 #[.val (.ref ox)] [(.ref ox)])) ?_ fun t k => (by
    refine XS.ifnonnullYes X101.here hx rfl (pc0 := 4) (pc' := 13) rfl (hb hby own_d_prog_5_m6_4) rfl (by decide) (by decide) ?_
    refine XS.aloadN X101.here hx rfl (hb hby own_d_prog_5_m6_13) rfl rfl ?_
    exact k)
  obtain ⟨T102, X102, e102, st102⟩ := getF X101 hx hZ hown (host := "") (Or.inl (hw _ (List.mem_of_getElem? (i := 103) rfl))) Via.refl e101 hF (g := (mkF m 14 #[.val (.ref ox)] [(.ref ox)])) rfl rfl (hb hby own_d_prog_5_m6_14)
  refine own_to (V := T102.setTop (mkF m 17 #[.val (.ref ox)] [(.ref oi)])) ?_ st102
  obtain ⟨cq103, kq103, q103a, q103b, q103c⟩ := isOf hZ e102 hI
  obtain ⟨_, _, ⟨T103, L103, k103, n103⟩, -, X103, ⟨Lc103, hQ103, l103, y103, z103⟩, st103⟩ := X102.virtualBack hx (y := (⟨"java/lang/Integer", "intValue", "()I"⟩ : MethodName)) (z := (⟨"java/lang/Integer", "intValue", "()I"⟩ : MethodName)) hown (mvT hZ (hw _ (List.mem_of_getElem? (i := 128) rfl))) (mvT hZ (hw _ (List.mem_of_getElem? (i := 129) rfl))) (notFace_of_selects (args := #[]) (mvT hZ (hw _ (List.mem_of_getElem? (i := 131) rfl)))) (mvT hZ (hw _ (List.mem_of_getElem? (i := 131) rfl))) (mvT hZ (hw _ (List.mem_of_getElem? (i := 130) rfl))) (by decide) (backOf (W := 0) (own_rmintv l Z a0 hw hst [] oi wi h0 n0 X00 hI hV) hZ (hw _ (List.mem_of_getElem? (i := 132) rfl)) (hw _ (List.mem_of_getElem? (i := 113) rfl)) (by decide) (by decide)) q103a q103c (g := (mkF m 17 #[.val (.ref ox)] [(.ref oi)])) rfl (by rw [hml]; rfl) (Steps.refl _) (argsL := []) (rest := []) (lenOf own_pd6 rfl) rfl (by show 2 * 0 + _ ≤ _; exact Nat.le_of_eq rfl) (hb hby own_d_prog_5_m6_17) (fun _ _ => ⟨rfl, e102, (by decide : 0 + 0 ≤ _), (by decide : 0 + 0 ≤ _)⟩)
  dsimp only [Pt.U, Pt.locs, Pt.cells, Pt.slots] at X103 l103 y103 z103 st103 hQ103
  subst l103 y103 z103
  obtain ⟨hv103, N103q, K103⟩ := hQ103
  subst hv103
  obtain ⟨h103, e103⟩ : ∃ z, T103.heap = z := ⟨_, rfl⟩
  rw [e103] at K103
  have Xo103 : Old Z n0 h103 := X00.keep K103 all0
  have KK103 : Keep h0 h103 [] := KK0.trans K103 all0
  have N103 := Fr.app N0 N103q
  refine own_to (V := T103.setTop (mkF m 20 #[.val (.ref ox)] [(.int wi)])) ?_ (fun t k => st103.trans k)
  obtain ⟨_, _, ⟨T104, L104, k104, n104⟩, -, X104, ⟨Lc104, hQ104, l104, y104, z104⟩, st104⟩ := Jvm.LawKit.callS X103 hx (y := (⟨"java/util/OptionalInt", "of", "(I)Ljava/util/OptionalInt;"⟩ : MethodName)) hown (mvT hZ (hw _ (List.mem_of_getElem? (i := 135) rfl))) (mvT hZ (hw _ (List.mem_of_getElem? (i := 136) rfl))) (mvT hZ (hw _ (List.mem_of_getElem? (i := 125) rfl))) (mvT hZ (hw _ (List.mem_of_getElem? (i := 137) rfl))) (by decide) (backOf (W := 0) (own_rmofi l Z a0 hw hst [] wi h103 n0 Xo103 ) hZ (hw _ (List.mem_of_getElem? (i := 137) rfl)) (hw _ (List.mem_of_getElem? (i := 125) rfl)) (by decide) (by decide)) (g := (mkF m 20 #[.val (.ref ox)] [(.int wi)])) rfl (by rw [hml]; rfl) (argsL := [(.int wi)]) (rest := []) (lenOf own_pd7 rfl) rfl (by show 2 * 0 + _ ≤ _; exact Nat.le_of_eq rfl) (hb hby own_d_prog_5_m6_20) (fun _ _ => ⟨rfl, e103, (by decide : 0 + 1 ≤ _), (by decide : 0 + 2 ≤ _)⟩)
  dsimp only [Pt.U, Pt.locs, Pt.cells, Pt.slots] at X104 l104 y104 z104 st104 hQ104
  subst l104 y104 z104
  obtain ⟨oo104, hv104, N104q, K104, g104_0, g104_1, g104_2⟩ := hQ104
  subst hv104
  obtain ⟨h104, e104⟩ : ∃ z, T104.heap = z := ⟨_, rfl⟩
  rw [e104] at K104 g104_0 g104_1 g104_2
  have Xo104 : Old Z n0 h104 := Xo103.keep K104 all0
  have KK104 : Keep h0 h104 [] := KK103.trans K104 all0
  have N104 := Fr.app N103 N104q
  refine own_to (V := T104.setTop (mkF m 23 #[.val (.ref ox)] [(.ref oo104)])) ?_ st104
  exact own_retR X104 hx hret (by decide) rfl hlk (hb hby own_d_prog_5_m6_23) (by rw [e104]; exact (⟨oo104, rfl, N104, KK104, g104_0, g104_1, g104_2⟩)) (by decide) (by decide)
def own_Qisp0 (Z : State) (oo : Addr) (h0 : Heap) (n0 : Nat) (v : Option Value) (h : Heap) (L : List Loc) : Prop := (v = some (.int (0 : Int32)) ∧ Fr n0 L ∧ Keep h0 h [])
theorem own_ef_isp0 (m : MethodId) (oo : Addr)  : entryFrame m #[(.ref oo)] 1 = mkF m 0 #[.val (.ref oo)] [] := by first | (simp [entryFrame, mkF, argsToLocals, Value.category]; done) | rfl
set_option maxRecDepth 65536 in
set_option maxHeartbeats 40000000 in
theorem own_rmisp0 (l : Launch) (Z : State) (a0 : Array Value) (hw : ∀ d ∈ tables_1, d.before a0 Z = true) (hst : own_St Z) (ws : List Jvm.Cond) (oo : Addr) (h0 : Heap) (n0 : Nat) (X00 : Old Z n0 h0) (hE : Exa Z h0 oo "java/util/OptionalInt") (hF : Fld Z h0 oo "java/util/OptionalInt" "isPresent" "Z" (.int (0 : Int32))) :
    MetFree l (⟨"java/util/OptionalInt", "isPresent", "()Z"⟩ : MethodName) (head1 (Jvm.Cond.code (⟨"java/util/OptionalInt", "isPresent", "()Z"⟩ : MethodName) jdk_2649_method_6_code 1 (Option.some Jvm.ClassFile.FieldType.boolean) :: ws) ({ frames := 0, cells := 0, slots := 0, locals := 0 } : Room)) (fun a U => a = #[(.ref oo)] ∧ Z.Warmed39 U.vm ∧ U.heap = h0) (fun _ _ _ _ _ => True) (fun _ U o U' => ∃ v L, o = .returned v ∧ own_Qisp0 Z oo h0 n0 v U'.heap L ∧ FrameEnd U o U' L ({ frames := 0, cells := 0, slots := 0, locals := 0 } : Room).cells ({ frames := 0, cells := 0, slots := 0, locals := 0 } : Room).slots) := by
  refine MetFree.of_bodySF (plainFor_of_name own_pn7) hisR ?_
  intro p e s m args below meth c s₁ Bd hml0 hP hK
  obtain ⟨rfl, hZ, hh⟩ := hP
  have hx := Bd.exec
  have hby := Bd.bytes
  have hret := Bd.returns
  have hlk : meth.locks = false := BodyLoose.notSynchronized Bd
  have hml : c.maxLocals = 1 := hml0
  have hown : s.vm.findClass "java/util/OptionalInt" = some m.cls := findClass_of_methodNamed Bd.named
  have hnm := (name_of_methodNamed Bd.named Bd.method).1
  have X0 : Stand p l e ({ frames := 0, cells := 0, slots := 0, locals := 0 } : Room) s m #[(.ref oo)] below meth c s₁ [] 0 0 := Stand.of_body Bd
  have e0 : s₁.heap = h0 := by rw [← hh, Bd.state]; rfl
  have N0 := Fr.nil n0
  have KK0 : Keep h0 h0 [] := Keep.refl h0 _
  refine own_start (own_Qisp0 Z oo h0 n0) ?_
  refine own_to (V := s₁.setTop (mkF m 0 #[.val (.ref oo)] [])) ?_ (fun t k => castTop (own_ef_isp0 m oo ) k)
  obtain ⟨⟨G1, O2, P5⟩, ⟨G3, O4, rG3⟩, ⟨iC, iL, iO1, iO2, iA, iE⟩, ⟨ec0, ec1, ec2, ec3, ec4, ec5, ec6, ec7, ec8, so0, so1, so2, so3, so4, so5, so6, so7, so8⟩, ⟨oe, oeS, oeE, oeP⟩, ⟨uS, uP, oUS, ruS, oUP, ruP⟩, -⟩ := id hst
  refine own_to (V := s₁.setTop (mkF m 1 #[.val (.ref oo)] [(.ref oo)])) ?_ fun t k => (by
    refine XS.aloadN X0.here hx rfl (hb hby own_d_jdk_2649_m6_0) rfl rfl ?_
    exact k)
  obtain ⟨T101, X101, e101, st101⟩ := getF X0 hx hZ hown (host := "") (Or.inl (hw _ (List.mem_of_getElem? (i := 145) rfl))) Via.refl e0 hF (g := (mkF m 1 #[.val (.ref oo)] [(.ref oo)])) rfl rfl (hb hby own_d_jdk_2649_m6_1)
  refine own_to (V := T101.setTop (mkF m 4 #[.val (.ref oo)] [(.int (0 : Int32))])) ?_ st101
  exact own_retN X101 hx (t := .boolean) (w := (0 : Int32)) hret (by decide) rfl hlk (hb hby own_d_jdk_2649_m6_4) (by rw [e101]; exact (⟨rfl, N0, KK0⟩)) (by decide) (by decide)
def own_Qisp1 (Z : State) (oo : Addr) (h0 : Heap) (n0 : Nat) (v : Option Value) (h : Heap) (L : List Loc) : Prop := (v = some (.int (1 : Int32)) ∧ Fr n0 L ∧ Keep h0 h [])
theorem own_ef_isp1 (m : MethodId) (oo : Addr)  : entryFrame m #[(.ref oo)] 1 = mkF m 0 #[.val (.ref oo)] [] := by first | (simp [entryFrame, mkF, argsToLocals, Value.category]; done) | rfl
set_option maxRecDepth 65536 in
set_option maxHeartbeats 40000000 in
theorem own_rmisp1 (l : Launch) (Z : State) (a0 : Array Value) (hw : ∀ d ∈ tables_1, d.before a0 Z = true) (hst : own_St Z) (ws : List Jvm.Cond) (oo : Addr) (h0 : Heap) (n0 : Nat) (X00 : Old Z n0 h0) (hE : Exa Z h0 oo "java/util/OptionalInt") (hF : Fld Z h0 oo "java/util/OptionalInt" "isPresent" "Z" (.int (1 : Int32))) :
    MetFree l (⟨"java/util/OptionalInt", "isPresent", "()Z"⟩ : MethodName) (head1 (Jvm.Cond.code (⟨"java/util/OptionalInt", "isPresent", "()Z"⟩ : MethodName) jdk_2649_method_6_code 1 (Option.some Jvm.ClassFile.FieldType.boolean) :: ws) ({ frames := 0, cells := 0, slots := 0, locals := 0 } : Room)) (fun a U => a = #[(.ref oo)] ∧ Z.Warmed39 U.vm ∧ U.heap = h0) (fun _ _ _ _ _ => True) (fun _ U o U' => ∃ v L, o = .returned v ∧ own_Qisp1 Z oo h0 n0 v U'.heap L ∧ FrameEnd U o U' L ({ frames := 0, cells := 0, slots := 0, locals := 0 } : Room).cells ({ frames := 0, cells := 0, slots := 0, locals := 0 } : Room).slots) := by
  refine MetFree.of_bodySF (plainFor_of_name own_pn7) hisR ?_
  intro p e s m args below meth c s₁ Bd hml0 hP hK
  obtain ⟨rfl, hZ, hh⟩ := hP
  have hx := Bd.exec
  have hby := Bd.bytes
  have hret := Bd.returns
  have hlk : meth.locks = false := BodyLoose.notSynchronized Bd
  have hml : c.maxLocals = 1 := hml0
  have hown : s.vm.findClass "java/util/OptionalInt" = some m.cls := findClass_of_methodNamed Bd.named
  have hnm := (name_of_methodNamed Bd.named Bd.method).1
  have X0 : Stand p l e ({ frames := 0, cells := 0, slots := 0, locals := 0 } : Room) s m #[(.ref oo)] below meth c s₁ [] 0 0 := Stand.of_body Bd
  have e0 : s₁.heap = h0 := by rw [← hh, Bd.state]; rfl
  have N0 := Fr.nil n0
  have KK0 : Keep h0 h0 [] := Keep.refl h0 _
  refine own_start (own_Qisp1 Z oo h0 n0) ?_
  refine own_to (V := s₁.setTop (mkF m 0 #[.val (.ref oo)] [])) ?_ (fun t k => castTop (own_ef_isp1 m oo ) k)
  obtain ⟨⟨G1, O2, P5⟩, ⟨G3, O4, rG3⟩, ⟨iC, iL, iO1, iO2, iA, iE⟩, ⟨ec0, ec1, ec2, ec3, ec4, ec5, ec6, ec7, ec8, so0, so1, so2, so3, so4, so5, so6, so7, so8⟩, ⟨oe, oeS, oeE, oeP⟩, ⟨uS, uP, oUS, ruS, oUP, ruP⟩, -⟩ := id hst
  refine own_to (V := s₁.setTop (mkF m 1 #[.val (.ref oo)] [(.ref oo)])) ?_ fun t k => (by
    refine XS.aloadN X0.here hx rfl (hb hby own_d_jdk_2649_m6_0) rfl rfl ?_
    exact k)
  obtain ⟨T101, X101, e101, st101⟩ := getF X0 hx hZ hown (host := "") (Or.inl (hw _ (List.mem_of_getElem? (i := 145) rfl))) Via.refl e0 hF (g := (mkF m 1 #[.val (.ref oo)] [(.ref oo)])) rfl rfl (hb hby own_d_jdk_2649_m6_1)
  refine own_to (V := T101.setTop (mkF m 4 #[.val (.ref oo)] [(.int (1 : Int32))])) ?_ st101
  exact own_retN X101 hx (t := .boolean) (w := (1 : Int32)) hret (by decide) rfl hlk (hb hby own_d_jdk_2649_m6_4) (by rw [e101]; exact (⟨rfl, N0, KK0⟩)) (by decide) (by decide)
def own_Qgai (Z : State) (oo : Addr) (wi : Int32) (h0 : Heap) (n0 : Nat) (v : Option Value) (h : Heap) (L : List Loc) : Prop := (v = some (.int wi) ∧ Fr n0 L ∧ Keep h0 h [])
theorem own_ef_gai (m : MethodId) (oo : Addr)  : entryFrame m #[(.ref oo)] 1 = mkF m 0 #[.val (.ref oo)] [] := by first | (simp [entryFrame, mkF, argsToLocals, Value.category]; done) | rfl
set_option maxRecDepth 65536 in
set_option maxHeartbeats 40000000 in
theorem own_rmgai (l : Launch) (Z : State) (a0 : Array Value) (hw : ∀ d ∈ tables_1, d.before a0 Z = true) (hst : own_St Z) (ws : List Jvm.Cond) (oo : Addr) (wi : Int32) (h0 : Heap) (n0 : Nat) (X00 : Old Z n0 h0) (hE : Exa Z h0 oo "java/util/OptionalInt") (hF : Fld Z h0 oo "java/util/OptionalInt" "isPresent" "Z" (.int (1 : Int32))) (hV : Fld Z h0 oo "java/util/OptionalInt" "value" "I" (.int wi)) :
    MetFree l (⟨"java/util/OptionalInt", "getAsInt", "()I"⟩ : MethodName) (head1 (Jvm.Cond.code (⟨"java/util/OptionalInt", "getAsInt", "()I"⟩ : MethodName) jdk_2649_method_5_code 1 (Option.some Jvm.ClassFile.FieldType.int) :: ws) ({ frames := 0, cells := 0, slots := 0, locals := 0 } : Room)) (fun a U => a = #[(.ref oo)] ∧ Z.Warmed39 U.vm ∧ U.heap = h0) (fun _ _ _ _ _ => True) (fun _ U o U' => ∃ v L, o = .returned v ∧ own_Qgai Z oo wi h0 n0 v U'.heap L ∧ FrameEnd U o U' L ({ frames := 0, cells := 0, slots := 0, locals := 0 } : Room).cells ({ frames := 0, cells := 0, slots := 0, locals := 0 } : Room).slots) := by
  refine MetFree.of_bodySF (plainFor_of_name own_pn7) hisR ?_
  intro p e s m args below meth c s₁ Bd hml0 hP hK
  obtain ⟨rfl, hZ, hh⟩ := hP
  have hx := Bd.exec
  have hby := Bd.bytes
  have hret := Bd.returns
  have hlk : meth.locks = false := BodyLoose.notSynchronized Bd
  have hml : c.maxLocals = 1 := hml0
  have hown : s.vm.findClass "java/util/OptionalInt" = some m.cls := findClass_of_methodNamed Bd.named
  have hnm := (name_of_methodNamed Bd.named Bd.method).1
  have X0 : Stand p l e ({ frames := 0, cells := 0, slots := 0, locals := 0 } : Room) s m #[(.ref oo)] below meth c s₁ [] 0 0 := Stand.of_body Bd
  have e0 : s₁.heap = h0 := by rw [← hh, Bd.state]; rfl
  have N0 := Fr.nil n0
  have KK0 : Keep h0 h0 [] := Keep.refl h0 _
  refine own_start (own_Qgai Z oo wi h0 n0) ?_
  refine own_to (V := s₁.setTop (mkF m 0 #[.val (.ref oo)] [])) ?_ (fun t k => castTop (own_ef_gai m oo ) k)
  obtain ⟨⟨G1, O2, P5⟩, ⟨G3, O4, rG3⟩, ⟨iC, iL, iO1, iO2, iA, iE⟩, ⟨ec0, ec1, ec2, ec3, ec4, ec5, ec6, ec7, ec8, so0, so1, so2, so3, so4, so5, so6, so7, so8⟩, ⟨oe, oeS, oeE, oeP⟩, ⟨uS, uP, oUS, ruS, oUP, ruP⟩, -⟩ := id hst
  refine own_to (V := s₁.setTop (mkF m 1 #[.val (.ref oo)] [(.ref oo)])) ?_ fun t k => (by
    refine XS.aloadN X0.here hx rfl (hb hby own_d_jdk_2649_m5_0) rfl rfl ?_
    exact k)
  obtain ⟨T101, X101, e101, st101⟩ := getF X0 hx hZ hown (host := "") (Or.inl (hw _ (List.mem_of_getElem? (i := 145) rfl))) Via.refl e0 hF (g := (mkF m 1 #[.val (.ref oo)] [(.ref oo)])) rfl rfl (hb hby own_d_jdk_2649_m5_1)
  refine own_to (V := T101.setTop (mkF m 4 #[.val (.ref oo)] [(.int (1 : Int32))])) ?_ st101
  refine own_to (V := T101.setTop (mkF m 18 #[.val (.ref oo)] [(.ref oo)])) ?_ fun t k => (by
    refine XS.ifYes X101.here hx rfl (pc0 := 4) (pc' := 17) rfl (hb hby own_d_jdk_2649_m5_4) rfl ((if0 _ _).trans (feq ((by decide) : ¬ ((1 : Int32) = (0 : Int32)))).2) (by decide) (by decide) ?_
    refine XS.aloadN X101.here hx rfl (hb hby own_d_jdk_2649_m5_17) rfl rfl ?_
    exact k)
  obtain ⟨T102, X102, e102, st102⟩ := getF X101 hx hZ hown (host := "") (Or.inl (hw _ (List.mem_of_getElem? (i := 147) rfl))) Via.refl e101 hV (g := (mkF m 18 #[.val (.ref oo)] [(.ref oo)])) rfl rfl (hb hby own_d_jdk_2649_m5_18)
  refine own_to (V := T102.setTop (mkF m 21 #[.val (.ref oo)] [(.int wi)])) ?_ st102
  exact own_retI X102 hx hret hlk (hb hby own_d_jdk_2649_m5_21) (by rw [e102]; exact (⟨rfl, N0, KK0⟩)) (by decide) (by decide)
def own_Qlaw (Z : State) (p0 : Int32) (p1 : Int32) (p2 : Int32) (p3 : Int32) (h0 : Heap) (n0 : Nat) (v : Option Value) (h : Heap) (L : List Loc) : Prop := (v = some (.int (1 : Int32)) ∧ Fr n0 L ∧ Keep h0 h [])
set_option maxRecDepth 65536 in
set_option maxHeartbeats 40000000 in
theorem own_sglaw1 (l : Launch) (Z : State) (a0 : Array Value) (hw : ∀ d ∈ tables_1, d.before a0 Z = true) (hst : own_St Z) (p0 : Int32) (p1 : Int32) (p2 : Int32) (p3 : Int32) (h0 : Heap) (n0 : Nat) (p6 : Int32) (b4 : Addr) (b5 : Addr)
    {p : Program} {e : Env} {s : State} {m : MethodId} {args : Array Value} {below : List Frame} {meth : Method} {c : Code} (hx : p.tables.exec = Jvm.exec) (hby : c.code = code) (hret : meth.sig.returnType = ret) (hlk : meth.locks = false) (hml : c.maxLocals = 11) (hnm : meth.name = "law") (htr : l.stackTraces = true) (hK : s.vm.MethodsKnown ∧ s.vm.FramesKnown below) (hZ : Z.Warmed39 s.vm) (hown : s.vm.findClass "com/example/hamal/hamal/api/ApiExceptionRetryAfterSecondsPinLaw" = some m.cls)
    {T0 : State} {locs : List Loc} {h : Heap} (X0 : Stand p l e room_1 s m args below meth c T0 locs 3 8) (e0 : T0.heap = h) (N0 : Fr n0 locs) (Xo0 : Old Z n0 h) (KK0 : Keep h0 h [])  :
    own_Go p e below (own_Post s (own_Qlaw Z p0 p1 p2 p3 h0 n0) room_1.cells room_1.slots) (T0.setTop (mkF m 50 #[.val (.int p0), .val (.int p1), .val (.int p2), .val (.int p3), .val (.ref b4), .val (.ref b5), .val (.int p6), .unset, .unset, .unset, .unset] [])) := by
  obtain ⟨⟨G1, O2, P5⟩, ⟨G3, O4, rG3⟩, ⟨iC, iL, iO1, iO2, iA, iE⟩, ⟨ec0, ec1, ec2, ec3, ec4, ec5, ec6, ec7, ec8, so0, so1, so2, so3, so4, so5, so6, so7, so8⟩, ⟨oe, oeS, oeE, oeP⟩, ⟨uS, uP, oUS, ruS, oUP, ruP⟩, -⟩ := id hst
  obtain ⟨T101, h101, X101, e101, E101, A101, D101, U101, st101⟩ := newO X0 hx hZ hown (hw _ (List.mem_of_getElem? (i := 31) rfl)) (hw _ (List.mem_of_getElem? (i := 32) rfl)) (hw _ (List.mem_of_getElem? (i := 33) rfl)) e0 (g := (mkF m 50 #[.val (.int p0), .val (.int p1), .val (.int p2), .val (.int p3), .val (.ref b4), .val (.ref b5), .val (.int p6), .unset, .unset, .unset, .unset] [])) rfl (hb hby at_50) (by decide) (by decide)
  obtain ⟨b101, g101⟩ : ∃ z, z = h.size := ⟨_, rfl⟩
  rw [← g101] at A101 D101 U101 st101
  have Xo101 : Old Z n0 h101 := Xo0.ext E101
  have KK101 : Keep h0 h101 [] := KK0.ext E101
  have ge_b101 : n0 ≤ b101 := Nat.le_trans (own_ole Xo0) (Nat.le_of_eq g101.symm)
  have sz_b101 : h0.size ≤ b101 := Nat.le_trans KK0.1 (Nat.le_of_eq g101.symm)
  have Fi101_66 : Fld Z h101 b101 "java/lang/Throwable" "cause" "Ljava/lang/Throwable;" .null := D101 (Or.inl (hw _ (List.mem_of_getElem? (i := 66) rfl))) (ty := (.object "java/lang/Throwable")) (by decide)
  have Fi101_69 : Fld Z h101 b101 "java/lang/Throwable" "stackTrace" "[Ljava/lang/StackTraceElement;" .null := D101 (Or.inl (hw _ (List.mem_of_getElem? (i := 69) rfl))) (ty := (.array (.object "java/lang/StackTraceElement"))) (by decide)
  have Fi101_72 : Fld Z h101 b101 "java/lang/Throwable" "suppressedExceptions" "Ljava/util/List;" .null := D101 (Or.inl (hw _ (List.mem_of_getElem? (i := 72) rfl))) (ty := (.object "java/util/List")) (by decide)
  have Fi101_96 : Fld Z h101 b101 "java/lang/Throwable" "detailMessage" "Ljava/lang/String;" .null := D101 (Or.inl (hw _ (List.mem_of_getElem? (i := 96) rfl))) (ty := (.object "java/lang/String")) (by decide)
  have Fi101_97 : Fld Z h101 b101 "java/lang/Throwable" "backtrace" "Ljava/lang/Object;" .null := D101 (Or.inl (hw _ (List.mem_of_getElem? (i := 97) rfl))) (ty := (.object "java/lang/Object")) (by decide)
  have Fi101_98 : Fld Z h101 b101 "java/lang/Throwable" "depth" "I" (.int (0 : Int32)) := D101 (Or.inl (hw _ (List.mem_of_getElem? (i := 98) rfl))) (ty := .int) (by decide)
  have Fi101_102 : Fld Z h101 b101 "com/example/hamal/hamal/api/ApiException" "code" "Lcom/example/hamal/hamal/api/ErrorCode;" .null := D101 (Or.inr (hw _ (List.mem_of_getElem? (i := 102) rfl))) (ty := (.object "com/example/hamal/hamal/api/ErrorCode")) (by decide)
  have Fi101_104 : Fld Z h101 b101 "com/example/hamal/hamal/api/ApiException" "retryAfterSeconds" "Ljava/lang/Integer;" .null := D101 (Or.inr (hw _ (List.mem_of_getElem? (i := 104) rfl))) (ty := (.object "java/lang/Integer")) (by decide)
  refine own_to (V := T101.setTop (mkF m 53 #[.val (.int p0), .val (.int p1), .val (.int p2), .val (.int p3), .val (.ref b4), .val (.ref b5), .val (.int p6), .unset, .unset, .unset, .unset] [(.ref b101)])) ?_ st101
  refine own_to (V := T101.setTop (mkF m 55 #[.val (.int p0), .val (.int p1), .val (.int p2), .val (.int p3), .val (.ref b4), .val (.ref b5), .val (.int p6), .unset, .unset, .unset, .unset] [(.int p0), (.ref b101), (.ref b101)])) ?_ fun t k => (by
    refine XS.dup X101.here hx rfl (hb hby at_53) rfl rfl ?_
    refine XS.iloadN X101.here hx rfl (hb hby at_54) rfl ?_
    exact k)
  obtain ⟨_, _, ⟨T102, L102, k102, n102⟩, -, X102, ⟨Lc102, hQ102, l102, y102, z102⟩, st102⟩ := Jvm.LawKit.callS X101 hx (y := (⟨"com/example/hamal/hamal/api/ApiExceptionRetryAfterSecondsPinLaw", "pick", "(I)Lcom/example/hamal/hamal/api/ErrorCode;"⟩ : MethodName)) hown (mvT hZ (hw _ (List.mem_of_getElem? (i := 34) rfl))) (mvT hZ (hw _ (List.mem_of_getElem? (i := 35) rfl))) (mvT hZ (hw _ (List.mem_of_getElem? (i := 36) rfl))) (mvT hZ (hw _ (List.mem_of_getElem? (i := 37) rfl))) (by decide) (backOf (W := 2) (own_rmpick l Z a0 hw hst [] p0 h101 n0 Xo101 ) hZ (hw _ (List.mem_of_getElem? (i := 37) rfl)) (hw _ (List.mem_of_getElem? (i := 36) rfl)) (by decide) (by decide)) (g := (mkF m 55 #[.val (.int p0), .val (.int p1), .val (.int p2), .val (.int p3), .val (.ref b4), .val (.ref b5), .val (.int p6), .unset, .unset, .unset, .unset] [(.int p0), (.ref b101), (.ref b101)])) rfl (by rw [hml]; rfl) (argsL := [(.int p0)]) (rest := [(.ref b101), (.ref b101)]) (lenOf own_pd8 rfl) rfl (by show 2 * 0 + _ ≤ _; exact Nat.le_of_eq rfl) (hb hby at_55) (fun _ _ => ⟨rfl, e101, (by decide : 4 + 0 ≤ _), (by decide : 16 + 0 ≤ _)⟩)
  dsimp only [Pt.U, Pt.locs, Pt.cells, Pt.slots] at X102 l102 y102 z102 st102 hQ102
  subst l102 y102 z102
  obtain ⟨oc102, hv102, N102q, K102⟩ := hQ102
  subst hv102
  obtain ⟨h102, e102⟩ : ∃ z, T102.heap = z := ⟨_, rfl⟩
  rw [e102] at K102
  have Xo102 : Old Z n0 h102 := Xo101.keep K102 all0
  have KK102 : Keep h0 h102 [] := KK101.trans K102 all0
  have N102 := Fr.app N0 N102q
  refine own_to (V := T102.setTop (mkF m 58 #[.val (.int p0), .val (.int p1), .val (.int p2), .val (.int p3), .val (.ref b4), .val (.ref b5), .val (.int p6), .unset, .unset, .unset, .unset] [(.ref oc102), (.ref b101), (.ref b101)])) ?_ st102
  refine own_to (V := T102.setTop (mkF m 60 #[.val (.int p0), .val (.int p1), .val (.int p2), .val (.int p3), .val (.ref b4), .val (.ref b5), .val (.int p6), .unset, .unset, .unset, .unset] [(.ref b5), (.ref oc102), (.ref b101), (.ref b101)])) ?_ fun t k => (by
    refine XS.aload X102.here hx rfl (hb hby at_58) rfl rfl ?_
    exact k)
  have F104 : Exa Z h102 b101 "com/example/hamal/hamal/api/ApiException" := (A101.keep K102)
  have F105 : Unt h102 b101 := (Jvm.RoadKit.Unt.keep K102 List.not_mem_nil U101)
  have F106 : Fld Z h102 b101 "java/lang/Throwable" "cause" "Ljava/lang/Throwable;" .null := (Fi101_66.keep K102 List.not_mem_nil)
  have F107 : Fld Z h102 b101 "java/lang/Throwable" "stackTrace" "[Ljava/lang/StackTraceElement;" .null := (Fi101_69.keep K102 List.not_mem_nil)
  have F108 : Fld Z h102 b101 "java/lang/Throwable" "suppressedExceptions" "Ljava/util/List;" .null := (Fi101_72.keep K102 List.not_mem_nil)
  have F109 : Fld Z h102 b101 "java/lang/Throwable" "detailMessage" "Ljava/lang/String;" .null := (Fi101_96.keep K102 List.not_mem_nil)
  have F110 : Fld Z h102 b101 "java/lang/Throwable" "backtrace" "Ljava/lang/Object;" .null := (Fi101_97.keep K102 List.not_mem_nil)
  have F111 : Fld Z h102 b101 "com/example/hamal/hamal/api/ApiException" "code" "Lcom/example/hamal/hamal/api/ErrorCode;" .null := (Fi101_102.keep K102 List.not_mem_nil)
  have F112 : Fld Z h102 b101 "com/example/hamal/hamal/api/ApiException" "retryAfterSeconds" "Ljava/lang/Integer;" .null := (Fi101_104.keep K102 List.not_mem_nil)
  obtain ⟨_, _, ⟨T103, L103, k103, n103⟩, -, X103, ⟨Lc103, hQ103, l103, y103, z103⟩, st103⟩ := X102.specialBack hx (y := (⟨"com/example/hamal/hamal/api/ApiException", "<init>", "(Lcom/example/hamal/hamal/api/ErrorCode;Ljava/lang/String;)V"⟩ : MethodName)) rfl hown (mvT hZ (hw _ (List.mem_of_getElem? (i := 41) rfl))) (mvT hZ (hw _ (List.mem_of_getElem? (i := 42) rfl))) (mvT hZ (hw _ (List.mem_of_getElem? (i := 43) rfl))) (by decide) (backOfKL (W := 1) (own_rmapi2 l Z a0 hw hst htr [] b101 (.ref oc102) (.ref b5) h102 n0 Xo102 rfl rfl F104 F105 F106 F107 F108 F109 F110 F111 F112 ge_b101) hZ (hw _ (List.mem_of_getElem? (i := 43) rfl)) (hw _ (List.mem_of_getElem? (i := 33) rfl)) (by decide) (by decide) hK.1 hK.2) (g := (mkF m 60 #[.val (.int p0), .val (.int p1), .val (.int p2), .val (.int p3), .val (.ref b4), .val (.ref b5), .val (.int p6), .unset, .unset, .unset, .unset] [(.ref b5), (.ref oc102), (.ref b101), (.ref b101)])) rfl (by rw [hml]; rfl) (Steps.refl _) (a := b101) (argsL := [(.ref oc102), (.ref b5)]) (rest := [(.ref b101)]) (lenOf own_pd9 rfl) rfl (by show 2 * 0 + _ ≤ _; exact Nat.le_of_eq rfl) (hb hby at_60) (fun _ _ => ⟨rfl, e102, (by decide : 4 + 1 ≤ _), (by decide : 16 + 2752 ≤ _)⟩)
  dsimp only [Pt.U, Pt.locs, Pt.cells, Pt.slots] at X103 l103 y103 z103 st103 hQ103
  subst l103 y103 z103
  obtain ⟨hv103, N103q, K103, g103_0⟩ := hQ103
  subst hv103
  obtain ⟨h103, e103⟩ : ∃ z, T103.heap = z := ⟨_, rfl⟩
  rw [e103] at K103 g103_0
  have Xo103 : Old Z n0 h103 := Xo102.keep K103 (allS ge_b101 all0)
  have KK103 : Keep h0 h103 [] := KK102.trans K103 (allS (Or.inr sz_b101) all0)
  have N103 := Fr.app N102 N103q
  refine own_to (V := T103.setTop (mkF m 63 #[.val (.int p0), .val (.int p1), .val (.int p2), .val (.int p3), .val (.ref b4), .val (.ref b5), .val (.int p6), .unset, .unset, .unset, .unset] [(.ref b101)])) ?_ (fun t k => st103.trans k)
  refine own_to (V := T103.setTop (mkF m 69 #[.val (.int p0), .val (.int p1), .val (.int p2), .val (.int p3), .val (.ref b4), .val (.ref b5), .val (.int p6), .val (.ref b101), .unset, .unset, .unset] [(.int p6), (.ref b5)])) ?_ fun t k => (by
    refine XS.astore X103.here hx rfl (hb hby at_63) rfl rfl (l' := #[.val (.int p0), .val (.int p1), .val (.int p2), .val (.int p3), .val (.ref b4), .val (.ref b5), .val (.int p6), .val (.ref b101), .unset, .unset, .unset]) rfl ?_
    refine XS.aload X103.here hx rfl (hb hby at_65) rfl rfl ?_
    refine XS.iload X103.here hx rfl (hb hby at_67) rfl ?_
    exact k)
  obtain ⟨_, _, ⟨T113, L113, k113, n113⟩, -, X113, ⟨Lc113, hQ113, l113, y113, z113⟩, st113⟩ := Jvm.LawKit.callS X103 hx (y := (⟨"com/example/hamal/hamal/api/ApiException", "tooSoon", "(Ljava/lang/String;I)Lcom/example/hamal/hamal/api/ApiException;"⟩ : MethodName)) hown (mvT hZ (hw _ (List.mem_of_getElem? (i := 105) rfl))) (mvT hZ (hw _ (List.mem_of_getElem? (i := 106) rfl))) (mvT hZ (hw _ (List.mem_of_getElem? (i := 33) rfl))) (mvT hZ (hw _ (List.mem_of_getElem? (i := 107) rfl))) (by decide) (backOfKL (W := 0) (own_rmsoon l Z a0 hw hst htr [] (.ref b5) p6 h103 n0 Xo103 rfl) hZ (hw _ (List.mem_of_getElem? (i := 107) rfl)) (hw _ (List.mem_of_getElem? (i := 33) rfl)) (by decide) (by decide) hK.1 hK.2) (g := (mkF m 69 #[.val (.int p0), .val (.int p1), .val (.int p2), .val (.int p3), .val (.ref b4), .val (.ref b5), .val (.int p6), .val (.ref b101), .unset, .unset, .unset] [(.int p6), (.ref b5)])) rfl (by rw [hml]; rfl) (argsL := [(.ref b5), (.int p6)]) (rest := []) (lenOf own_pd10 rfl) rfl (by show 2 * 0 + _ ≤ _; exact Nat.le_of_eq rfl) (hb hby at_69) (fun _ _ => ⟨rfl, e103, (by decide : 5 + 3 ≤ _), (by decide : 2768 + 2761 ≤ _)⟩)
  dsimp only [Pt.U, Pt.locs, Pt.cells, Pt.slots] at X113 l113 y113 z113 st113 hQ113
  subst l113 y113 z113
  obtain ⟨ox113, oi113, hv113, N113q, K113, g113_0, g113_1, g113_2, g113_3⟩ := hQ113
  subst hv113
  obtain ⟨h113, e113⟩ : ∃ z, T113.heap = z := ⟨_, rfl⟩
  rw [e113] at K113 g113_0 g113_1 g113_2 g113_3
  have Xo113 : Old Z n0 h113 := Xo103.keep K113 all0
  have KK113 : Keep h0 h113 [] := KK103.trans K113 all0
  have N113 := Fr.app N103 N113q
  refine own_to (V := T113.setTop (mkF m 72 #[.val (.int p0), .val (.int p1), .val (.int p2), .val (.int p3), .val (.ref b4), .val (.ref b5), .val (.int p6), .val (.ref b101), .unset, .unset, .unset] [(.ref ox113)])) ?_ st113
  refine own_to (V := T113.setTop (mkF m 76 #[.val (.int p0), .val (.int p1), .val (.int p2), .val (.int p3), .val (.ref b4), .val (.ref b5), .val (.int p6), .val (.ref b101), .val (.ref ox113), .unset, .unset] [(.ref b101)])) ?_ fun t k => (by
    refine XS.astore X113.here hx rfl (hb hby at_72) rfl rfl (l' := #[.val (.int p0), .val (.int p1), .val (.int p2), .val (.int p3), .val (.ref b4), .val (.ref b5), .val (.int p6), .val (.ref b101), .val (.ref ox113), .unset, .unset]) rfl ?_
    refine XS.aload X113.here hx rfl (hb hby at_74) rfl rfl ?_
    exact k)
  have F115 : Exa Z h113 b101 "com/example/hamal/hamal/api/ApiException" := ((F104.keep K103).keep K113)
  have F116 : Fld Z h113 b101 "com/example/hamal/hamal/api/ApiException" "retryAfterSeconds" "Ljava/lang/Integer;" .null := (g103_0.keep K113 List.not_mem_nil)
  obtain ⟨cq114, kq114, q114a, q114b, q114c⟩ := isOf hZ e113 F115
  obtain ⟨_, _, ⟨T114, L114, k114, n114⟩, -, X114, ⟨Lc114, hQ114, l114, y114, z114⟩, st114⟩ := X113.virtualBack hx (y := (⟨"com/example/hamal/hamal/api/ApiException", "retryAfterSeconds", "()Ljava/util/OptionalInt;"⟩ : MethodName)) (z := (⟨"com/example/hamal/hamal/api/ApiException", "retryAfterSeconds", "()Ljava/util/OptionalInt;"⟩ : MethodName)) hown (mvT hZ (hw _ (List.mem_of_getElem? (i := 118) rfl))) (mvT hZ (hw _ (List.mem_of_getElem? (i := 119) rfl))) (notFace_of_selects (args := #[]) (mvT hZ (hw _ (List.mem_of_getElem? (i := 121) rfl)))) (mvT hZ (hw _ (List.mem_of_getElem? (i := 121) rfl))) (mvT hZ (hw _ (List.mem_of_getElem? (i := 120) rfl))) (by decide) (backOf (W := 0) (own_rmra0 l Z a0 hw hst [] b101 h113 n0 Xo113 F115 F116) hZ (hw _ (List.mem_of_getElem? (i := 122) rfl)) (hw _ (List.mem_of_getElem? (i := 33) rfl)) (by decide) (by decide)) q114a q114c (g := (mkF m 76 #[.val (.int p0), .val (.int p1), .val (.int p2), .val (.int p3), .val (.ref b4), .val (.ref b5), .val (.int p6), .val (.ref b101), .val (.ref ox113), .unset, .unset] [(.ref b101)])) rfl (by rw [hml]; rfl) (Steps.refl _) (argsL := []) (rest := []) (lenOf own_pd5 rfl) rfl (by show 2 * 0 + _ ≤ _; exact Nat.le_of_eq rfl) (hb hby at_76) (fun _ _ => ⟨rfl, e113, (by decide : 8 + 0 ≤ _), (by decide : 5529 + 0 ≤ _)⟩)
  dsimp only [Pt.U, Pt.locs, Pt.cells, Pt.slots] at X114 l114 y114 z114 st114 hQ114
  subst l114 y114 z114
  obtain ⟨oo114, hv114, N114q, K114, g114_0, g114_1⟩ := hQ114
  subst hv114
  obtain ⟨h114, e114⟩ : ∃ z, T114.heap = z := ⟨_, rfl⟩
  rw [e114] at K114 g114_0 g114_1
  have Xo114 : Old Z n0 h114 := Xo113.keep K114 all0
  have KK114 : Keep h0 h114 [] := KK113.trans K114 all0
  have N114 := Fr.app N113 N114q
  refine own_to (V := T114.setTop (mkF m 79 #[.val (.int p0), .val (.int p1), .val (.int p2), .val (.int p3), .val (.ref b4), .val (.ref b5), .val (.int p6), .val (.ref b101), .val (.ref ox113), .unset, .unset] [(.ref oo114)])) ?_ (fun t k => st114.trans k)
  refine own_to (V := T114.setTop (mkF m 83 #[.val (.int p0), .val (.int p1), .val (.int p2), .val (.int p3), .val (.ref b4), .val (.ref b5), .val (.int p6), .val (.ref b101), .val (.ref ox113), .val (.ref oo114), .unset] [(.ref ox113)])) ?_ fun t k => (by
    refine XS.astore X114.here hx rfl (hb hby at_79) rfl rfl (l' := #[.val (.int p0), .val (.int p1), .val (.int p2), .val (.int p3), .val (.ref b4), .val (.ref b5), .val (.int p6), .val (.ref b101), .val (.ref ox113), .val (.ref oo114), .unset]) rfl ?_
    refine XS.aload X114.here hx rfl (hb hby at_81) rfl rfl ?_
    exact k)
  have F118 : Exa Z h114 ox113 "com/example/hamal/hamal/api/ApiException" := (g113_0.keep K114)
  have F119 : Fld Z h114 ox113 "com/example/hamal/hamal/api/ApiException" "retryAfterSeconds" "Ljava/lang/Integer;" (.ref oi113) := (g113_1.keep K114 List.not_mem_nil)
  have F120 : Exa Z h114 oi113 "java/lang/Integer" := (g113_2.keep K114)
  have F121 : Fld Z h114 oi113 "java/lang/Integer" "value" "I" (.int p6) := (g113_3.keep K114 List.not_mem_nil)
  obtain ⟨cq117, kq117, q117a, q117b, q117c⟩ := isOf hZ e114 F118
  obtain ⟨_, _, ⟨T117, L117, k117, n117⟩, -, X117, ⟨Lc117, hQ117, l117, y117, z117⟩, st117⟩ := X114.virtualBack hx (y := (⟨"com/example/hamal/hamal/api/ApiException", "retryAfterSeconds", "()Ljava/util/OptionalInt;"⟩ : MethodName)) (z := (⟨"com/example/hamal/hamal/api/ApiException", "retryAfterSeconds", "()Ljava/util/OptionalInt;"⟩ : MethodName)) hown (mvT hZ (hw _ (List.mem_of_getElem? (i := 118) rfl))) (mvT hZ (hw _ (List.mem_of_getElem? (i := 119) rfl))) (notFace_of_selects (args := #[]) (mvT hZ (hw _ (List.mem_of_getElem? (i := 121) rfl)))) (mvT hZ (hw _ (List.mem_of_getElem? (i := 121) rfl))) (mvT hZ (hw _ (List.mem_of_getElem? (i := 120) rfl))) (by decide) (backOf (W := 0) (own_rmra1 l Z a0 hw hst [] ox113 oi113 p6 h114 n0 Xo114 F118 F119 F120 F121) hZ (hw _ (List.mem_of_getElem? (i := 122) rfl)) (hw _ (List.mem_of_getElem? (i := 33) rfl)) (by decide) (by decide)) q117a q117c (g := (mkF m 83 #[.val (.int p0), .val (.int p1), .val (.int p2), .val (.int p3), .val (.ref b4), .val (.ref b5), .val (.int p6), .val (.ref b101), .val (.ref ox113), .val (.ref oo114), .unset] [(.ref ox113)])) rfl (by rw [hml]; rfl) (Steps.refl _) (argsL := []) (rest := []) (lenOf own_pd5 rfl) rfl (by show 2 * 0 + _ ≤ _; exact Nat.le_of_eq rfl) (hb hby at_83) (fun _ _ => ⟨rfl, e114, (by decide : 8 + 1 ≤ _), (by decide : 5529 + 2 ≤ _)⟩)
  dsimp only [Pt.U, Pt.locs, Pt.cells, Pt.slots] at X117 l117 y117 z117 st117 hQ117
  subst l117 y117 z117
  obtain ⟨oo117, hv117, N117q, K117, g117_0, g117_1, g117_2⟩ := hQ117
  subst hv117
  obtain ⟨h117, e117⟩ : ∃ z, T117.heap = z := ⟨_, rfl⟩
  rw [e117] at K117 g117_0 g117_1 g117_2
  have Xo117 : Old Z n0 h117 := Xo114.keep K117 all0
  have KK117 : Keep h0 h117 [] := KK114.trans K117 all0
  have N117 := Fr.app N114 N117q
  refine own_to (V := T117.setTop (mkF m 86 #[.val (.int p0), .val (.int p1), .val (.int p2), .val (.int p3), .val (.ref b4), .val (.ref b5), .val (.int p6), .val (.ref b101), .val (.ref ox113), .val (.ref oo114), .unset] [(.ref oo117)])) ?_ (fun t k => st117.trans k)
  refine own_to (V := T117.setTop (mkF m 90 #[.val (.int p0), .val (.int p1), .val (.int p2), .val (.int p3), .val (.ref b4), .val (.ref b5), .val (.int p6), .val (.ref b101), .val (.ref ox113), .val (.ref oo114), .val (.ref oo117)] [(.ref oo114)])) ?_ fun t k => (by
    refine XS.astore X117.here hx rfl (hb hby at_86) rfl rfl (l' := #[.val (.int p0), .val (.int p1), .val (.int p2), .val (.int p3), .val (.ref b4), .val (.ref b5), .val (.int p6), .val (.ref b101), .val (.ref ox113), .val (.ref oo114), .val (.ref oo117)]) rfl ?_
    refine XS.aload X117.here hx rfl (hb hby at_88) rfl rfl ?_
    exact k)
  have F123 : Exa Z h117 oo114 "java/util/OptionalInt" := (g114_0.keep K117)
  have F124 : Fld Z h117 oo114 "java/util/OptionalInt" "isPresent" "Z" (.int (0 : Int32)) := (g114_1.keep K117 List.not_mem_nil)
  obtain ⟨cq122, kq122, q122a, q122b, q122c⟩ := isOf hZ e117 F123
  obtain ⟨_, _, ⟨T122, L122, k122, n122⟩, -, X122, ⟨Lc122, hQ122, l122, y122, z122⟩, st122⟩ := X117.virtualBack hx (y := (⟨"java/util/OptionalInt", "isPresent", "()Z"⟩ : MethodName)) (z := (⟨"java/util/OptionalInt", "isPresent", "()Z"⟩ : MethodName)) hown (mvT hZ (hw _ (List.mem_of_getElem? (i := 149) rfl))) (mvT hZ (hw _ (List.mem_of_getElem? (i := 150) rfl))) (notFace_of_selects (args := #[]) (mvT hZ (hw _ (List.mem_of_getElem? (i := 152) rfl)))) (mvT hZ (hw _ (List.mem_of_getElem? (i := 152) rfl))) (mvT hZ (hw _ (List.mem_of_getElem? (i := 151) rfl))) (by decide) (backOf (W := 0) (own_rmisp0 l Z a0 hw hst [] oo114 h117 n0 Xo117 F123 F124) hZ (hw _ (List.mem_of_getElem? (i := 153) rfl)) (hw _ (List.mem_of_getElem? (i := 125) rfl)) (by decide) (by decide)) q122a q122c (g := (mkF m 90 #[.val (.int p0), .val (.int p1), .val (.int p2), .val (.int p3), .val (.ref b4), .val (.ref b5), .val (.int p6), .val (.ref b101), .val (.ref ox113), .val (.ref oo114), .val (.ref oo117)] [(.ref oo114)])) rfl (by rw [hml]; rfl) (Steps.refl _) (argsL := []) (rest := []) (lenOf own_pd11 rfl) rfl (by show 2 * 0 + _ ≤ _; exact Nat.le_of_eq rfl) (hb hby at_90) (fun _ _ => ⟨rfl, e117, (by decide : 9 + 0 ≤ _), (by decide : 5531 + 0 ≤ _)⟩)
  dsimp only [Pt.U, Pt.locs, Pt.cells, Pt.slots] at X122 l122 y122 z122 st122 hQ122
  subst l122 y122 z122
  obtain ⟨hv122, N122q, K122⟩ := hQ122
  subst hv122
  obtain ⟨h122, e122⟩ : ∃ z, T122.heap = z := ⟨_, rfl⟩
  rw [e122] at K122
  have Xo122 : Old Z n0 h122 := Xo117.keep K122 all0
  have KK122 : Keep h0 h122 [] := KK117.trans K122 all0
  have N122 := Fr.app N117 N122q
  refine own_to (V := T122.setTop (mkF m 93 #[.val (.int p0), .val (.int p1), .val (.int p2), .val (.int p3), .val (.ref b4), .val (.ref b5), .val (.int p6), .val (.ref b101), .val (.ref ox113), .val (.ref oo114), .val (.ref oo117)] [(.int (0 : Int32))])) ?_ (fun t k => st122.trans k)
  refine own_to (V := T122.setTop (mkF m 100 #[.val (.int p0), .val (.int p1), .val (.int p2), .val (.int p3), .val (.ref b4), .val (.ref b5), .val (.int p6), .val (.ref b101), .val (.ref ox113), .val (.ref oo114), .val (.ref oo117)] [(.ref oo117)])) ?_ fun t k => (by
    refine XS.ifYes X122.here hx rfl (pc0 := 93) (pc' := 98) rfl (hb hby at_93) rfl ((if0 _ _).trans (teq ((by decide) : (0 : Int32) = (0 : Int32))).1) (by decide) (by decide) ?_
    refine XS.aload X122.here hx rfl (hb hby at_98) rfl rfl ?_
    exact k)
  have F126 : Exa Z h122 oo117 "java/util/OptionalInt" := (g117_0.keep K122)
  have F127 : Fld Z h122 oo117 "java/util/OptionalInt" "isPresent" "Z" (.int (1 : Int32)) := (g117_1.keep K122 List.not_mem_nil)
  obtain ⟨cq125, kq125, q125a, q125b, q125c⟩ := isOf hZ e122 F126
  obtain ⟨_, _, ⟨T125, L125, k125, n125⟩, -, X125, ⟨Lc125, hQ125, l125, y125, z125⟩, st125⟩ := X122.virtualBack hx (y := (⟨"java/util/OptionalInt", "isPresent", "()Z"⟩ : MethodName)) (z := (⟨"java/util/OptionalInt", "isPresent", "()Z"⟩ : MethodName)) hown (mvT hZ (hw _ (List.mem_of_getElem? (i := 149) rfl))) (mvT hZ (hw _ (List.mem_of_getElem? (i := 150) rfl))) (notFace_of_selects (args := #[]) (mvT hZ (hw _ (List.mem_of_getElem? (i := 152) rfl)))) (mvT hZ (hw _ (List.mem_of_getElem? (i := 152) rfl))) (mvT hZ (hw _ (List.mem_of_getElem? (i := 151) rfl))) (by decide) (backOf (W := 0) (own_rmisp1 l Z a0 hw hst [] oo117 h122 n0 Xo122 F126 F127) hZ (hw _ (List.mem_of_getElem? (i := 153) rfl)) (hw _ (List.mem_of_getElem? (i := 125) rfl)) (by decide) (by decide)) q125a q125c (g := (mkF m 100 #[.val (.int p0), .val (.int p1), .val (.int p2), .val (.int p3), .val (.ref b4), .val (.ref b5), .val (.int p6), .val (.ref b101), .val (.ref ox113), .val (.ref oo114), .val (.ref oo117)] [(.ref oo117)])) rfl (by rw [hml]; rfl) (Steps.refl _) (argsL := []) (rest := []) (lenOf own_pd11 rfl) rfl (by show 2 * 0 + _ ≤ _; exact Nat.le_of_eq rfl) (hb hby at_100) (fun _ _ => ⟨rfl, e122, (by decide : 9 + 0 ≤ _), (by decide : 5531 + 0 ≤ _)⟩)
  dsimp only [Pt.U, Pt.locs, Pt.cells, Pt.slots] at X125 l125 y125 z125 st125 hQ125
  subst l125 y125 z125
  obtain ⟨hv125, N125q, K125⟩ := hQ125
  subst hv125
  obtain ⟨h125, e125⟩ : ∃ z, T125.heap = z := ⟨_, rfl⟩
  rw [e125] at K125
  have Xo125 : Old Z n0 h125 := Xo122.keep K125 all0
  have KK125 : Keep h0 h125 [] := KK122.trans K125 all0
  have N125 := Fr.app N122 N125q
  refine own_to (V := T125.setTop (mkF m 103 #[.val (.int p0), .val (.int p1), .val (.int p2), .val (.int p3), .val (.ref b4), .val (.ref b5), .val (.int p6), .val (.ref b101), .val (.ref ox113), .val (.ref oo114), .val (.ref oo117)] [(.int (1 : Int32))])) ?_ (fun t k => st125.trans k)
  refine own_to (V := T125.setTop (mkF m 110 #[.val (.int p0), .val (.int p1), .val (.int p2), .val (.int p3), .val (.ref b4), .val (.ref b5), .val (.int p6), .val (.ref b101), .val (.ref ox113), .val (.ref oo114), .val (.ref oo117)] [(.ref oo117)])) ?_ fun t k => (by
    refine XS.ifYes X125.here hx rfl (pc0 := 103) (pc' := 108) rfl (hb hby at_103) rfl ((if0 _ _).trans (feq ((by decide) : ¬ ((1 : Int32) = (0 : Int32)))).2) (by decide) (by decide) ?_
    refine XS.aload X125.here hx rfl (hb hby at_108) rfl rfl ?_
    exact k)
  have F129 : Exa Z h125 oo117 "java/util/OptionalInt" := (F126.keep K125)
  have F130 : Fld Z h125 oo117 "java/util/OptionalInt" "isPresent" "Z" (.int (1 : Int32)) := (F127.keep K125 List.not_mem_nil)
  have F131 : Fld Z h125 oo117 "java/util/OptionalInt" "value" "I" (.int p6) := ((g117_2.keep K122 List.not_mem_nil).keep K125 List.not_mem_nil)
  obtain ⟨cq128, kq128, q128a, q128b, q128c⟩ := isOf hZ e125 F129
  obtain ⟨_, _, ⟨T128, L128, k128, n128⟩, -, X128, ⟨Lc128, hQ128, l128, y128, z128⟩, st128⟩ := X125.virtualBack hx (y := (⟨"java/util/OptionalInt", "getAsInt", "()I"⟩ : MethodName)) (z := (⟨"java/util/OptionalInt", "getAsInt", "()I"⟩ : MethodName)) hown (mvT hZ (hw _ (List.mem_of_getElem? (i := 154) rfl))) (mvT hZ (hw _ (List.mem_of_getElem? (i := 155) rfl))) (notFace_of_selects (args := #[]) (mvT hZ (hw _ (List.mem_of_getElem? (i := 157) rfl)))) (mvT hZ (hw _ (List.mem_of_getElem? (i := 157) rfl))) (mvT hZ (hw _ (List.mem_of_getElem? (i := 156) rfl))) (by decide) (backOf (W := 0) (own_rmgai l Z a0 hw hst [] oo117 p6 h125 n0 Xo125 F129 F130 F131) hZ (hw _ (List.mem_of_getElem? (i := 158) rfl)) (hw _ (List.mem_of_getElem? (i := 125) rfl)) (by decide) (by decide)) q128a q128c (g := (mkF m 110 #[.val (.int p0), .val (.int p1), .val (.int p2), .val (.int p3), .val (.ref b4), .val (.ref b5), .val (.int p6), .val (.ref b101), .val (.ref ox113), .val (.ref oo114), .val (.ref oo117)] [(.ref oo117)])) rfl (by rw [hml]; rfl) (Steps.refl _) (argsL := []) (rest := []) (lenOf own_pd6 rfl) rfl (by show 2 * 0 + _ ≤ _; exact Nat.le_of_eq rfl) (hb hby at_110) (fun _ _ => ⟨rfl, e125, (by decide : 9 + 0 ≤ _), (by decide : 5531 + 0 ≤ _)⟩)
  dsimp only [Pt.U, Pt.locs, Pt.cells, Pt.slots] at X128 l128 y128 z128 st128 hQ128
  subst l128 y128 z128
  obtain ⟨hv128, N128q, K128⟩ := hQ128
  subst hv128
  obtain ⟨h128, e128⟩ : ∃ z, T128.heap = z := ⟨_, rfl⟩
  rw [e128] at K128
  have Xo128 : Old Z n0 h128 := Xo125.keep K128 all0
  have KK128 : Keep h0 h128 [] := KK125.trans K128 all0
  have N128 := Fr.app N125 N128q
  refine own_to (V := T128.setTop (mkF m 113 #[.val (.int p0), .val (.int p1), .val (.int p2), .val (.int p3), .val (.ref b4), .val (.ref b5), .val (.int p6), .val (.ref b101), .val (.ref ox113), .val (.ref oo114), .val (.ref oo117)] [(.int p6)])) ?_ (fun t k => st128.trans k)
  refine own_to (V := T128.setTop (mkF m 123 #[.val (.int p0), .val (.int p1), .val (.int p2), .val (.int p3), .val (.ref b4), .val (.ref b5), .val (.int p6), .val (.ref b101), .val (.ref ox113), .val (.ref oo114), .val (.ref oo117)] [(.int (1 : Int32))])) ?_ fun t k => (by
    refine XS.iload X128.here hx rfl (hb hby at_113) rfl ?_
    refine XS.icmpNo X128.here hx rfl (hb hby at_115) rfl (teq (rfl : p6 = p6)).2 ?_
    refine XS.iconst X128.here hx rfl (hb hby at_118) ?_
    refine XS.goto X128.here hx rfl (pc0 := 119) (pc' := 123) rfl (hb hby at_119) (by decide) (by decide) ?_
    exact k)
  exact own_retN X128 hx (t := .boolean) (w := (1 : Int32)) hret (by decide) rfl hlk (hb hby at_123) (by rw [e128]; exact (⟨rfl, N128, KK128⟩)) (by decide) (by decide)
theorem own_ef_law (m : MethodId) (p0 : Int32) (p1 : Int32) (p2 : Int32) (p3 : Int32)  : entryFrame m #[(.int p0), (.int p1), (.int p2), (.int p3)] maxLocals = mkF m 0 #[.val (.int p0), .val (.int p1), .val (.int p2), .val (.int p3), .unset, .unset, .unset, .unset, .unset, .unset, .unset] [] := by first | (simp [entryFrame, mkF, argsToLocals, Value.category, maxLocals]; done) | rfl
set_option maxRecDepth 65536 in
set_option maxHeartbeats 40000000 in
theorem own_rmlaw (l : Launch) (Z : State) (a0 : Array Value) (hw : ∀ d ∈ tables_1, d.before a0 Z = true) (hst : own_St Z) (htr : l.stackTraces = true) (ws : List Jvm.Cond) (p0 : Int32) (p1 : Int32) (p2 : Int32) (p3 : Int32) (h0 : Heap) (n0 : Nat) (X00 : Old Z n0 h0)  :
    MetFree l x (head1 (Jvm.Cond.code x code maxLocals ret :: ws) room_1) (fun a U => a = #[(.int p0), (.int p1), (.int p2), (.int p3)] ∧ Z.Warmed39 U.vm ∧ U.heap = h0) (fun _ _ _ s _ => Jvm.D.framesKnown s = true ∧ Jvm.D.tablesKnown s = true) (fun _ U o U' => ∃ v L, o = .returned v ∧ own_Qlaw Z p0 p1 p2 p3 h0 n0 v U'.heap L ∧ FrameEnd U o U' L room_1.cells room_1.slots) := by
  refine MetFree.of_bodySF (plainFor_of_name own_pn2) hisR ?_
  intro p e s m args below meth c s₁ Bd hml0 hP hK
  obtain ⟨rfl, hZ, hh⟩ := hP
  have hx := Bd.exec
  have hby := Bd.bytes
  have hret := Bd.returns
  have hlk : meth.locks = false := BodyLoose.notSynchronized Bd
  have hml : c.maxLocals = 11 := hml0
  have hown : s.vm.findClass "com/example/hamal/hamal/api/ApiExceptionRetryAfterSecondsPinLaw" = some m.cls := findClass_of_methodNamed Bd.named
  have hnm := (name_of_methodNamed Bd.named Bd.method).1
  have X0 : Stand p l e room_1 s m #[(.int p0), (.int p1), (.int p2), (.int p3)] below meth c s₁ [] 0 0 := Stand.of_body Bd
  have e0 : s₁.heap = h0 := by rw [← hh, Bd.state]; rfl
  have N0 := Fr.nil n0
  replace hK := And.intro (own_mk hK.2) (own_fk hK.1 X0.frames)
  have KK0 : Keep h0 h0 [] := Keep.refl h0 _
  refine own_start (own_Qlaw Z p0 p1 p2 p3 h0 n0) ?_
  refine own_to (V := s₁.setTop (mkF m 0 #[.val (.int p0), .val (.int p1), .val (.int p2), .val (.int p3), .unset, .unset, .unset, .unset, .unset, .unset, .unset] [])) ?_ (fun t k => castTop (own_ef_law m p0 p1 p2 p3 ) k)
  obtain ⟨⟨G1, O2, P5⟩, ⟨G3, O4, rG3⟩, ⟨iC, iL, iO1, iO2, iA, iE⟩, ⟨ec0, ec1, ec2, ec3, ec4, ec5, ec6, ec7, ec8, so0, so1, so2, so3, so4, so5, so6, so7, so8⟩, ⟨oe, oeS, oeE, oeP⟩, ⟨uS, uP, oUS, ruS, oUP, ruP⟩, -⟩ := id hst
  refine own_to (V := s₁.setTop (mkF m 1 #[.val (.int p0), .val (.int p1), .val (.int p2), .val (.int p3), .unset, .unset, .unset, .unset, .unset, .unset, .unset] [(.int (2 : Int32))])) ?_ fun t k => (by
    refine XS.iconst X0.here hx rfl (hb hby at_0) ?_
    exact k)
  obtain ⟨T101, h101, k101, X101, e101, E101, A101, st101⟩ := newP X0 hx hZ (hw _ (List.mem_of_getElem? (i := 0) rfl)) e0 (g := (mkF m 1 #[.val (.int p0), .val (.int p1), .val (.int p2), .val (.int p3), .unset, .unset, .unset, .unset, .unset, .unset, .unset] [(.int (2 : Int32))])) rfl (hb hby at_1) rfl (by decide) (cap := 2) (by decide) (by decide) (by decide) (by decide)
  obtain ⟨b101, g101⟩ : ∃ z, z = h0.size := ⟨_, rfl⟩
  rw [← g101] at A101 st101
  have Xo101 : Old Z n0 h101 := X00.ext E101
  have KK101 : Keep h0 h101 [] := KK0.ext E101
  have ge_b101 : n0 ≤ b101 := Nat.le_trans (own_ole X00) (Nat.le_of_eq g101.symm)
  have sz_b101 : h0.size ≤ b101 := Nat.le_trans KK0.1 (Nat.le_of_eq g101.symm)
  have V101 : Arv Z h101 b101 k101 .char (2 : Int32) [(.int (0 : Int32)), (.int (0 : Int32))] (.int (0 : Int32)) := (Arv.new A101 (by decide)).pad (pad_rep [] (.int (0 : Int32)) 2)
  refine own_to (V := T101.setTop (mkF m 3 #[.val (.int p0), .val (.int p1), .val (.int p2), .val (.int p3), .unset, .unset, .unset, .unset, .unset, .unset, .unset] [(.ref b101)])) ?_ st101
  obtain ⟨c102, hc102⟩ : ∃ z : Int32, z = ((p1 &&& (255 : Int32)).toUInt32.toUInt16.toUInt32.toInt32) := ⟨_, rfl⟩
  have rc_c102 : ¬ c102 < 0 ∧ ¬ (65535 : Int32) < c102 := by rw [hc102]; exact own_i2c_rng _
  have rb_c102 : ¬ c102 < 0 ∧ ¬ (255 : Int32) < c102 := by rw [hc102]; exact own_and255 _
  refine own_to (V := T101.setTop (mkF m 14 #[.val (.int p0), .val (.int p1), .val (.int p2), .val (.int p3), .val (.ref b101), .unset, .unset, .unset, .unset, .unset, .unset] [(.int c102), (.int (0 : Int32)), (.ref b101)])) ?_ fun t k => (by
    first | rw [hc102] at k | skip
    refine XS.astore X101.here hx rfl (hb hby at_3) rfl rfl (l' := #[.val (.int p0), .val (.int p1), .val (.int p2), .val (.int p3), .val (.ref b101), .unset, .unset, .unset, .unset, .unset, .unset]) rfl ?_
    refine XS.aload X101.here hx rfl (hb hby at_5) rfl rfl ?_
    refine XS.iconst X101.here hx rfl (hb hby at_7) ?_
    refine XS.iloadN X101.here hx rfl (hb hby at_8) rfl ?_
    refine XS.sipush X101.here hx rfl (hb hby at_9) ?_
    refine XS.iand X101.here hx rfl (hb hby at_12) rfl ?_
    refine XS.i2c X101.here hx rfl (hb hby at_13) rfl ?_
    exact k)
  obtain ⟨cl103, Ar103, q103, S103, M103, H103, G103⟩ := id V101
  obtain ⟨T103, h103, X103, e103, W103, st103⟩ := stC X101 hx hZ e101 Ar103 (j := (0 : Int32)) (inb_of S103 ⟨by decide, by decide⟩) (g := (mkF m 14 #[.val (.int p0), .val (.int p1), .val (.int p2), .val (.int p3), .val (.ref b101), .unset, .unset, .unset, .unset, .unset, .unset] [(.int c102), (.int (0 : Int32)), (.ref b101)])) rfl rfl (hb hby at_14)
  rw [own_narC rc_c102] at W103
  have Xo103 : Old Z n0 h103 := Xo101.wr W103 ge_b101
  have KK103 : Keep h0 h103 [] := KK101.wr W103 (Or.inr sz_b101)
  have V103 : Arv Z h103 b101 k101 .char (2 : Int32) [(.int c102), (.int (0 : Int32))] (.int (0 : Int32)) := Arv.set Ar103 q103 S103 M103 H103 G103 (own_fitC rc_c102) W103 0 rfl (Nat.le_of_ble_eq_true rfl)
  have N103 := Fr.snoc X103 N0 ge_b101
  refine own_to (V := T103.setTop (mkF m 15 #[.val (.int p0), .val (.int p1), .val (.int p2), .val (.int p3), .val (.ref b101), .unset, .unset, .unset, .unset, .unset, .unset] [])) ?_ st103
  obtain ⟨c104, hc104⟩ : ∃ z : Int32, z = ((p2 &&& (255 : Int32)).toUInt32.toUInt16.toUInt32.toInt32) := ⟨_, rfl⟩
  have rc_c104 : ¬ c104 < 0 ∧ ¬ (65535 : Int32) < c104 := by rw [hc104]; exact own_i2c_rng _
  have rb_c104 : ¬ c104 < 0 ∧ ¬ (255 : Int32) < c104 := by rw [hc104]; exact own_and255 _
  refine own_to (V := T103.setTop (mkF m 24 #[.val (.int p0), .val (.int p1), .val (.int p2), .val (.int p3), .val (.ref b101), .unset, .unset, .unset, .unset, .unset, .unset] [(.int c104), (.int (1 : Int32)), (.ref b101)])) ?_ fun t k => (by
    first | rw [hc104] at k | skip
    refine XS.aload X103.here hx rfl (hb hby at_15) rfl rfl ?_
    refine XS.iconst X103.here hx rfl (hb hby at_17) ?_
    refine XS.iloadN X103.here hx rfl (hb hby at_18) rfl ?_
    refine XS.sipush X103.here hx rfl (hb hby at_19) ?_
    refine XS.iand X103.here hx rfl (hb hby at_22) rfl ?_
    refine XS.i2c X103.here hx rfl (hb hby at_23) rfl ?_
    exact k)
  obtain ⟨cl105, Ar105, q105, S105, M105, H105, G105⟩ := id V103
  obtain ⟨T105, h105, X105, e105, W105, st105⟩ := stC X103 hx hZ e103 Ar105 (j := (1 : Int32)) (inb_of S105 ⟨by decide, by decide⟩) (g := (mkF m 24 #[.val (.int p0), .val (.int p1), .val (.int p2), .val (.int p3), .val (.ref b101), .unset, .unset, .unset, .unset, .unset, .unset] [(.int c104), (.int (1 : Int32)), (.ref b101)])) rfl rfl (hb hby at_24)
  rw [own_narC rc_c104] at W105
  have Xo105 : Old Z n0 h105 := Xo103.wr W105 ge_b101
  have KK105 : Keep h0 h105 [] := KK103.wr W105 (Or.inr sz_b101)
  have V105 : Arv Z h105 b101 k101 .char (2 : Int32) [(.int c102), (.int c104)] (.int (0 : Int32)) := Arv.set Ar105 q105 S105 M105 H105 G105 (own_fitC rc_c104) W105 1 rfl (Nat.le_of_ble_eq_true rfl)
  have N105 := Fr.snoc X105 N103 ge_b101
  refine own_to (V := T105.setTop (mkF m 25 #[.val (.int p0), .val (.int p1), .val (.int p2), .val (.int p3), .val (.ref b101), .unset, .unset, .unset, .unset, .unset, .unset] [])) ?_ st105
  obtain ⟨T106, h106, X106, e106, E106, A106, D106, U106, st106⟩ := newO X105 hx hZ hown (hw _ (List.mem_of_getElem? (i := 1) rfl)) (hw _ (List.mem_of_getElem? (i := 2) rfl)) (hw _ (List.mem_of_getElem? (i := 3) rfl)) e105 (g := (mkF m 25 #[.val (.int p0), .val (.int p1), .val (.int p2), .val (.int p3), .val (.ref b101), .unset, .unset, .unset, .unset, .unset, .unset] [])) rfl (hb hby at_25) (by decide) (by decide)
  obtain ⟨b106, g106⟩ : ∃ z, z = h105.size := ⟨_, rfl⟩
  rw [← g106] at A106 D106 U106 st106
  have Xo106 : Old Z n0 h106 := Xo105.ext E106
  have KK106 : Keep h0 h106 [] := KK105.ext E106
  have ge_b106 : n0 ≤ b106 := Nat.le_trans (own_ole Xo105) (Nat.le_of_eq g106.symm)
  have sz_b106 : h0.size ≤ b106 := Nat.le_trans KK105.1 (Nat.le_of_eq g106.symm)
  have Fi106_27 : Fld Z h106 b106 "java/lang/String" "coder" "B" (.int (0 : Int32)) := D106 (Or.inr (hw _ (List.mem_of_getElem? (i := 27) rfl))) (ty := .byte) (by decide)
  have Fi106_29 : Fld Z h106 b106 "java/lang/String" "value" "[B" .null := D106 (Or.inr (hw _ (List.mem_of_getElem? (i := 29) rfl))) (ty := (.array .byte)) (by decide)
  refine own_to (V := T106.setTop (mkF m 28 #[.val (.int p0), .val (.int p1), .val (.int p2), .val (.int p3), .val (.ref b101), .unset, .unset, .unset, .unset, .unset, .unset] [(.ref b106)])) ?_ st106
  refine own_to (V := T106.setTop (mkF m 31 #[.val (.int p0), .val (.int p1), .val (.int p2), .val (.int p3), .val (.ref b101), .unset, .unset, .unset, .unset, .unset, .unset] [(.ref b101), (.ref b106), (.ref b106)])) ?_ fun t k => (by
    refine XS.dup X106.here hx rfl (hb hby at_28) rfl rfl ?_
    refine XS.aload X106.here hx rfl (hb hby at_29) rfl rfl ?_
    exact k)
  have F108 : Arv Z h106 b101 k101 .char (2 : Int32) [(.int c102), (.int c104)] (.int (0 : Int32)) := (V105.ext E106)
  obtain ⟨_, _, ⟨T107, L107, k107, n107⟩, -, X107, ⟨Lc107, hQ107, l107, y107, z107⟩, st107⟩ := X106.specialBack hx (y := (⟨"java/lang/String", "<init>", "([C)V"⟩ : MethodName)) rfl hown (mvT hZ (hw _ (List.mem_of_getElem? (i := 4) rfl))) (mvT hZ (hw _ (List.mem_of_getElem? (i := 5) rfl))) (mvT hZ (hw _ (List.mem_of_getElem? (i := 6) rfl))) (by decide) (StrChars.Road.backV (W := 1) hZ (own_hws hw) (kI := 4) (hw _ (List.mem_of_getElem? (i := 2) rfl)) (cs := ([c102, c104] : List Int32)) (bs := ([c102, c104] : List Int32).map (fun c => c.toInt8.toInt32)) (n := 2) ge_b106 (own_ole Xo106) A106 Fi106_29 Fi106_27 F108 (O2.ext Xo106.2) P5 rfl rfl (by decide) (by decide) (own_allS rb_c102 (own_allS rb_c104 own_all0)) rfl (by decide) (by decide)) (g := (mkF m 31 #[.val (.int p0), .val (.int p1), .val (.int p2), .val (.int p3), .val (.ref b101), .unset, .unset, .unset, .unset, .unset, .unset] [(.ref b101), (.ref b106), (.ref b106)])) rfl (by rw [hml]; rfl) (Steps.refl _) (a := b106) (argsL := [(.ref b101)]) (rest := [(.ref b106)]) (lenOf own_pd12 rfl) rfl (by show 2 * 0 + _ ≤ _; exact Nat.le_of_eq rfl) (hb hby at_31) (fun _ _ => ⟨rfl, e106, (by decide : 2 + 1 ≤ _), (by decide : 6 + 2 ≤ _)⟩)
  dsimp only [Pt.U, Pt.locs, Pt.cells, Pt.slots] at X107 l107 y107 z107 st107 hQ107
  subst l107 y107 z107
  obtain ⟨hv107, N107q, K107, gE107, gC107, u107, kb107, ua107, ub107, uc107, gV107, gK107⟩ := hQ107
  subst hv107
  obtain ⟨h107, e107⟩ : ∃ z, T107.heap = z := ⟨_, rfl⟩
  rw [e107] at K107 gE107 gC107 gV107 gK107
  have Xo107 : Old Z n0 h107 := Xo106.keep K107 (allS ge_b106 all0)
  have KK107 : Keep h0 h107 [] := KK106.trans K107 (allS (Or.inr sz_b106) all0)
  have N107 := Fr.app N105 N107q
  have ge_u107 : n0 ≤ u107 := Nat.le_trans (own_ole Xo106) ub107
  have sz_u107 : h0.size ≤ u107 := Nat.le_trans KK106.1 ub107
  have Fs107 : own_Str Z h107 b106 u107 ([c102, c104] : List Int32) := own_mkStr0 gE107 gV107 gC107 gK107 rfl (own_allS rb_c102 (own_allS rb_c104 own_all0)) (Nat.le_of_ble_eq_true rfl)
  refine own_to (V := T107.setTop (mkF m 34 #[.val (.int p0), .val (.int p1), .val (.int p2), .val (.int p3), .val (.ref b101), .unset, .unset, .unset, .unset, .unset, .unset] [(.ref b106)])) ?_ (fun t k => st107.trans k)
  refine own_to (V := T107.setTop (mkF m 37 #[.val (.int p0), .val (.int p1), .val (.int p2), .val (.int p3), .val (.ref b101), .val (.ref b106), .unset, .unset, .unset, .unset, .unset] [(.int p3)])) ?_ fun t k => (by
    refine XS.astore X107.here hx rfl (hb hby at_34) rfl rfl (l' := #[.val (.int p0), .val (.int p1), .val (.int p2), .val (.int p3), .val (.ref b101), .val (.ref b106), .unset, .unset, .unset, .unset, .unset]) rfl ?_
    refine XS.iloadN X107.here hx rfl (hb hby at_36) rfl ?_
    exact k)
  refine own_to (V := T107.setTop (mkF m 39 #[.val (.int p0), .val (.int p1), .val (.int p2), .val (.int p3), .val (.ref b101), .val (.ref b106), .unset, .unset, .unset, .unset, .unset] [(.int (2147483647 : Int32)), (.int p3)])) ?_ (fun t k => X107.ldcInt hx hown (mvT hZ (hw _ (List.mem_of_getElem? (i := 30) rfl))) (g := (mkF m 37 #[.val (.int p0), .val (.int p1), .val (.int p2), .val (.int p3), .val (.ref b101), .val (.ref b106), .unset, .unset, .unset, .unset, .unset] [(.int p3)])) rfl (hb hby at_37) t k)
  obtain ⟨x109, hx109⟩ : ∃ z : Int32, z = (p3 &&& (2147483647 : Int32)) := ⟨_, rfl⟩
  refine own_to (V := T107.setTop (mkF m 42 #[.val (.int p0), .val (.int p1), .val (.int p2), .val (.int p3), .val (.ref b101), .val (.ref b106), .val (.int x109), .unset, .unset, .unset, .unset] [])) ?_ fun t k => (by
    first | rw [hx109] at k | skip
    refine XS.iand X107.here hx rfl (hb hby at_39) rfl ?_
    refine XS.istore X107.here hx rfl (hb hby at_40) rfl (l' := #[.val (.int p0), .val (.int p1), .val (.int p2), .val (.int p3), .val (.ref b101), .val (.ref b106), .val (.int (p3 &&& (2147483647 : Int32))), .unset, .unset, .unset, .unset]) rfl ?_
    exact k)
  refine own_to (V := T107.setTop (mkF m 44 #[.val (.int p0), .val (.int p1), .val (.int p2), .val (.int p3), .val (.ref b101), .val (.ref b106), .val (.int x109), .unset, .unset, .unset, .unset] [(.int x109)])) ?_ fun t k => (by
    refine XS.iload X107.here hx rfl (hb hby at_42) rfl ?_
    exact k)
  by_cases hc44_110 : x109 = (0 : Int32)
  · skip
    refine own_to (V := T107.setTop (mkF m 50 #[.val (.int p0), .val (.int p1), .val (.int p2), .val (.int p3), .val (.ref b101), .val (.ref b106), .val (.int (1 : Int32)), .unset, .unset, .unset, .unset] [])) ?_ fun t k => (by
      refine XS.ifNo X107.here hx rfl (hb hby at_44) rfl ((if0 _ _).trans (teq (hc44_110 : x109 = (0 : Int32))).2) ?_
      refine XS.iconst X107.here hx rfl (hb hby at_47) ?_
      refine XS.istore X107.here hx rfl (hb hby at_48) rfl (l' := #[.val (.int p0), .val (.int p1), .val (.int p2), .val (.int p3), .val (.ref b101), .val (.ref b106), .val (.int (1 : Int32)), .unset, .unset, .unset, .unset]) rfl ?_
      exact k)
    exact own_sglaw1 l Z a0 hw hst p0 p1 p2 p3 h0 n0 (1 : Int32) b101 b106 hx hby hret hlk hml hnm htr hK hZ hown X107 e107 N107 Xo107 KK107 
  · skip
    refine own_to (V := T107.setTop (mkF m 50 #[.val (.int p0), .val (.int p1), .val (.int p2), .val (.int p3), .val (.ref b101), .val (.ref b106), .val (.int x109), .unset, .unset, .unset, .unset] [])) ?_ fun t k => (by
      refine XS.ifYes X107.here hx rfl (pc0 := 44) (pc' := 50) rfl (hb hby at_44) rfl ((if0 _ _).trans (feq (hc44_110 : ¬ (x109 = (0 : Int32)))).2) (by decide) (by decide) ?_
      exact k)
    exact own_sglaw1 l Z a0 hw hst p0 p1 p2 p3 h0 n0 x109 b101 b106 hx hby hret hlk hml hnm htr hK hZ hown X107 e107 N107 Xo107 KK107 
set_option maxRecDepth 65536 in
set_option maxHeartbeats 40000000 in
theorem comes_1 {Post : Tables → Env → Array Value → State → Outcome → State → Prop} (hpost : ∀ tb e args s v u, (limb_1_1.after args s (.returned v) u = true ∧ limb_1_2.after args s (.returned v) u = true ∧ True) → FrameEnd s (.returned v) u (Jvm.fieldLocs frame_1_writes args s ++ Jvm.arrayLocs frame_1_arrays args s ++ Jvm.staticLocs frame_1_statics s) 32 11136 → Post tb e args s (.returned v) u) :
    ArmFor flags0 classFile x code maxLocals ret World_1 tables_1 room_1 Calls_1 rest_1 Pre_1 Post := by
  intro l hfl _ _ p e ha hc hk s m args below hf hA hF happ hP
  obtain ⟨hcalls, hrest, hpre⟩ := hP
  obtain ⟨-, -, -, hnamed, -, -, -, hat⟩ := (Spec.applies_iff hf).mp happ
  obtain ⟨hg, hn⟩ := and_e (Cond.before_iff.mp (show (Jvm.Cond.and given_1 narrow_1).before args s = true from hpre))
  obtain ⟨hcnt, gr0⟩ := and_e hg
  obtain ⟨ga0, gr1⟩ := and_e gr0
  obtain ⟨ga1, gr2⟩ := and_e gr1
  obtain ⟨ga2, gr3⟩ := and_e gr2
  have ga3 := gr3
  obtain ⟨w0, w1, w2, w3, rfl⟩ : ∃ w0 w1 w2 w3 : Value, args = #[w0, w1, w2, w3] := by
    have hs : args.size = 4 := by simpa [Cond.value, given_1] using hcnt
    obtain ⟨L⟩ := args
    match L, hs with
    | [w0, w1, w2, w3], _ => exact ⟨w0, w1, w2, w3, rfl⟩
  have hw := fun d (hd : d ∈ tables_1) => atoms_spec (ws := Jvm.Cond.code x code maxLocals ret :: tables_1) hat d (List.mem_cons_of_mem _ hd)
  have hfit : Fit s := fun {y c} hc i hi => by
    obtain ⟨ha, rfl⟩ := Array.getElem?_eq_some_iff.mp hc
    have q := List.all_eq_true.mp ((Array.all_eq_true_iff_forall_mem.mp hF) _ (Array.getElem_mem ha)) i (List.mem_range.mpr hi)
    simpa [Array.getElem?_eq_getElem hi] using q
  obtain ⟨hsets, hown0⟩ := atoms_of _ (rest_1_c_eq ▸ (show rest_1_c.before _ s = true from hrest))
  obtain ⟨i0, ei0⟩ := is_v ga0
  obtain rfl : w0 = (.int i0) := Option.some.inj ei0
  obtain ⟨i1, ei1⟩ := is_v ga1
  obtain rfl : w1 = (.int i1) := Option.some.inj ei1
  obtain ⟨i2, ei2⟩ := is_v ga2
  obtain rfl : w2 = (.int i2) := Option.some.inj ei2
  obtain ⟨i3, ei3⟩ := is_v ga3
  obtain rfl : w3 = (.int i3) := Option.some.inj ei3
  obtain ⟨z1, ez1⟩ := is_v (Cond.before_iff.mp (hsets _ (List.mem_of_getElem? (i := 1) rfl)))
  have S1 : Sta s s.heap "java/lang/String" "COMPACT_STRINGS" "Z" (.int z1) := Sta.start ez1 (Or.inl (hsets _ (List.mem_of_getElem? (i := 0) rfl)))
  have P1 : ¬ (z1 = (0 : Int32)) := gotF (Cond.eq_ints ez1 (Term.int_eval (0))) (not_v (Cond.before_iff.mp (hsets _ (List.mem_of_getElem? (i := 2) rfl))))
  obtain ⟨v3, ev3, r3⟩ := isR_v (Cond.before_iff.mp (hsets _ (List.mem_of_getElem? (i := 8) rfl)))
  have S3 : Sta s s.heap "jdk/internal/util/Preconditions" "SIOOBE_FORMATTER" "Ljava/util/function/BiFunction;" v3 := Sta.start ev3 (Or.inl (hsets _ (List.mem_of_getElem? (i := 7) rfl)))
  have hIC := own_intcache (Cond.before_iff.mp (hsets _ (List.mem_of_getElem? (i := 32) rfl))) (hsets _ (List.mem_of_getElem? (i := 30) rfl)) (hsets _ (List.mem_of_getElem? (i := 31) rfl)) (Cond.before_iff.mp (hsets _ (List.mem_of_getElem? (i := 33) rfl))) (Cond.before_iff.mp (hsets _ (List.mem_of_getElem? (i := 35) rfl))) (Cond.before_iff.mp (hsets _ (List.mem_of_getElem? (i := 36) rfl))) (hw _ (List.mem_of_getElem? (i := 116) rfl))
  obtain ⟨hq0, hr0⟩ := and_e hn
  obtain ⟨hq1, hr1⟩ := and_e hr0
  obtain ⟨hq2, hr2⟩ := and_e hr1
  obtain ⟨hq3, hr3⟩ := and_e hr2
  obtain ⟨hq4, hr4⟩ := and_e hr3
  obtain ⟨hq5, hr5⟩ := and_e hr4
  obtain ⟨hq6, hr6⟩ := and_e hr5
  obtain ⟨hq7, hr7⟩ := and_e hr6
  have hq8 := hr7
  obtain ⟨ec0, evec0⟩ := exa_v hq0
  have Sec0 : Sta s s.heap "com/example/hamal/hamal/api/ErrorCode" "INVALID_REQUEST" "Lcom/example/hamal/hamal/api/ErrorCode;" (.ref ec0) := Sta.start evec0 (Or.inr ⟨(hw _ (List.mem_of_getElem? (i := 39) rfl)), (hw _ (List.mem_of_getElem? (i := 40) rfl))⟩)
  obtain ⟨ec6, evec6⟩ := exa_v hq1
  have Sec6 : Sta s s.heap "com/example/hamal/hamal/api/ErrorCode" "TOO_MANY_REQUESTS" "Lcom/example/hamal/hamal/api/ErrorCode;" (.ref ec6) := Sta.start evec6 (Or.inr ⟨(hw _ (List.mem_of_getElem? (i := 39) rfl)), (hw _ (List.mem_of_getElem? (i := 110) rfl))⟩)
  obtain ⟨ec3, evec3⟩ := exa_v hq2
  have Sec3 : Sta s s.heap "com/example/hamal/hamal/api/ErrorCode" "NOT_FOUND" "Lcom/example/hamal/hamal/api/ErrorCode;" (.ref ec3) := Sta.start evec3 (Or.inr ⟨(hw _ (List.mem_of_getElem? (i := 39) rfl)), (hw _ (List.mem_of_getElem? (i := 160) rfl))⟩)
  obtain ⟨ec7, evec7⟩ := exa_v hq3
  have Sec7 : Sta s s.heap "com/example/hamal/hamal/api/ErrorCode" "INTERNAL" "Lcom/example/hamal/hamal/api/ErrorCode;" (.ref ec7) := Sta.start evec7 (Or.inr ⟨(hw _ (List.mem_of_getElem? (i := 39) rfl)), (hw _ (List.mem_of_getElem? (i := 162) rfl))⟩)
  obtain ⟨ec1, evec1⟩ := exa_v hq4
  have Sec1 : Sta s s.heap "com/example/hamal/hamal/api/ErrorCode" "UNAUTHORIZED" "Lcom/example/hamal/hamal/api/ErrorCode;" (.ref ec1) := Sta.start evec1 (Or.inr ⟨(hw _ (List.mem_of_getElem? (i := 39) rfl)), (hw _ (List.mem_of_getElem? (i := 177) rfl))⟩)
  obtain ⟨ec2, evec2⟩ := exa_v hq5
  have Sec2 : Sta s s.heap "com/example/hamal/hamal/api/ErrorCode" "FORBIDDEN" "Lcom/example/hamal/hamal/api/ErrorCode;" (.ref ec2) := Sta.start evec2 (Or.inr ⟨(hw _ (List.mem_of_getElem? (i := 39) rfl)), (hw _ (List.mem_of_getElem? (i := 179) rfl))⟩)
  obtain ⟨ec8, evec8⟩ := exa_v hq6
  have Sec8 : Sta s s.heap "com/example/hamal/hamal/api/ErrorCode" "UNAVAILABLE" "Lcom/example/hamal/hamal/api/ErrorCode;" (.ref ec8) := Sta.start evec8 (Or.inr ⟨(hw _ (List.mem_of_getElem? (i := 39) rfl)), (hw _ (List.mem_of_getElem? (i := 181) rfl))⟩)
  obtain ⟨ec4, evec4⟩ := exa_v hq7
  have Sec4 : Sta s s.heap "com/example/hamal/hamal/api/ErrorCode" "CONFLICT" "Lcom/example/hamal/hamal/api/ErrorCode;" (.ref ec4) := Sta.start evec4 (Or.inr ⟨(hw _ (List.mem_of_getElem? (i := 39) rfl)), (hw _ (List.mem_of_getElem? (i := 183) rfl))⟩)
  obtain ⟨ec5, evec5⟩ := exa_v hq8
  have Sec5 : Sta s s.heap "com/example/hamal/hamal/api/ErrorCode" "GONE" "Lcom/example/hamal/hamal/api/ErrorCode;" (.ref ec5) := Sta.start evec5 (Or.inr ⟨(hw _ (List.mem_of_getElem? (i := 39) rfl)), (hw _ (List.mem_of_getElem? (i := 185) rfl))⟩)
  have hx0 := Cond.before_iff.mp (hsets _ (List.mem_of_getElem? (i := 39) rfl))
  obtain ⟨oe, evoe⟩ := exa_v hx0
  have Soe : Sta s s.heap "java/util/OptionalInt" "EMPTY" "Ljava/util/OptionalInt;" (.ref oe) := Sta.start evoe (Or.inl (hsets _ (List.mem_of_getElem? (i := 38) rfl)))
  have Foe : Fld s s.heap oe "java/util/OptionalInt" "isPresent" "Z" (.int (0 : Int32)) := Fld.start (own_fldI evoe (Cond.before_iff.mp (hsets _ (List.mem_of_getElem? (i := 40) rfl))))
  obtain ⟨uS, evuS, ruS⟩ := isR_v (Cond.before_iff.mp (hsets _ (List.mem_of_getElem? (i := 16) rfl)))
  have SuS : Sta s s.heap "java/lang/Throwable" "UNASSIGNED_STACK" "[Ljava/lang/StackTraceElement;" uS := Sta.start evuS (Or.inr ⟨(hw _ (List.mem_of_getElem? (i := 62) rfl)), (hw _ (List.mem_of_getElem? (i := 93) rfl))⟩)
  obtain ⟨uP, evuP, ruP⟩ := isR_v (Cond.before_iff.mp (hsets _ (List.mem_of_getElem? (i := 21) rfl)))
  have SuP : Sta s s.heap "java/lang/Throwable" "SUPPRESSED_SENTINEL" "Ljava/util/List;" uP := Sta.start evuP (Or.inr ⟨(hw _ (List.mem_of_getElem? (i := 62) rfl)), (hw _ (List.mem_of_getElem? (i := 94) rfl))⟩)
  have hst : own_St s := ⟨⟨z1, S1, P1⟩, ⟨v3, S3, r3⟩, hIC, ⟨ec0, ec1, ec2, ec3, ec4, ec5, ec6, ec7, ec8, Sec0, Sec1, Sec2, Sec3, Sec4, Sec5, Sec6, Sec7, Sec8⟩, ⟨oe, Soe, Exa.start evoe hx0, Foe⟩, ⟨uS, uP, SuS, ruS, SuP, ruP⟩, trivial⟩
  have htr : l.stackTraces = true := own_tr hfl
  obtain ⟨n, o, h1, h2, h3, _, L, rfl, ⟨rfl, N, -⟩, hq⟩ := own_rmlaw l s _ hw hst htr tables_1 i0 i1 i2 i3 s.heap s.heap.size (Old.start s)  p e ha hc hk s m _ below hf ((Spec.applies_iff_loose hf).mp happ).1 ⟨rfl, State.Warmed39.refl s, rfl⟩ ⟨hcalls.1, hcalls.2.1⟩
  refine ⟨n, _, h1, h2, h3, hpost _ _ _ _ _ _ ⟨Cond.after_iff.mpr rfl, Cond.after_iff.mpr (eq_i res_at (Term.int_eval (1)) rfl), trivial⟩ ⟨hq.1, hq.2.1, (hq.2.2.sift fun y hy => Or.inr (N y hy)).mono (by decide) (by decide)⟩⟩
theorem main_1_1 : Claimed_1_1 := comes_1 fun _ _ _ _ _ _ h hF => ⟨h.1, hF⟩
theorem main_1_2 : Claimed_1_2 := comes_1 fun _ _ _ _ _ _ h hF => ⟨h.2.1, hF⟩
end Jvm.Pilot.@@N@@
namespace Jvm.Pilot.@@N@@
open Jvm Jvm.ClassFile Sem Op Lib Jvm.Free Jvm.Stand Jvm.Pilot.@@N@@.Jvm.D
/-! MADE BY PROGRAM (witnessworld.py) out of the Statement's table words and the real class files: 43 classes; the members and pool entries that the words name. The judged class is class 1, her method 2. -/
namespace start1
open Jvm.ClassFile
def u (s : String) : CpInfo := .utf8 (stringToUtf16 s)
/-- a pool by its gaps: so many unusable entries, then the entry; so many at the end -/
def gap : Nat → List CpInfo → List CpInfo
  | 0, r => r
  | n + 1, r => .unusable :: gap n r
def poolList (es : List (Nat × CpInfo)) (last : Nat) : List CpInfo := es.foldr (fun e r => gap e.1 (e.2 :: r)) (gap last [])
def pool (es : List (Nat × CpInfo)) (last : Nat) : Array CpInfo := ⟨poolList es last⟩
def fileOf (pool : Array CpInfo) (this : Nat) (attrs : Array Attribute := #[]) (ms : Array MethodInfo := #[]) (fl : Nat := 33) (sup : Nat := 0) (ifs : Array Nat := #[]) (fds : Array FieldInfo := #[]) : ClassFile where
  minorVersion := 0
  majorVersion := 65
  constantPool := pool
  accessFlags := fl
  thisClass := this
  superClass := sup
  interfaces := ifs
  fields := fds
  methods := ms
  attributes := attrs
def plain (name : String) (sup : Option ClassId) : Class where
  name := name
  kind := .ordinary
  loader := none
  accessFlags := 33
  super := sup
  interfaces := #[]
  cf := none
  fields := #[]
  methods := #[]
  instanceTypes := #[]
  staticTypes := #[]
  resolved := #[]
  callSites := []
  init := .initialized
  statics := none
  mirror := none

def pool0 : Array CpInfo := pool [(5, u "<init>"), (0, u "()V"), (1, .class_ 10), (1, u "java/lang/Object")] 113

def k0c0 : Code := { maxStack := 0, maxLocals := 1, code := object_method_1_code, exceptionTable := #[], attributes := #[] }
def k0m0 : Method := { name := "<init>", desc := "()V", sig := { parameters := [], returnType := none }, accessFlags := 1, code := some k0c0 }
/-- java/lang/Object -/
def k0 : Class := { plain "java/lang/Object" none with
  accessFlags := 33
  interfaces := #[]
  cf := some (fileOf pool0 8 #[] #[{ accessFlags := 1, nameIndex := 5, descriptorIndex := 6, attributes := #[] }] 33 0 #[] #[])
  fields := #[]
  methods := #[k0m0]
  instanceTypes := #[]
  staticTypes := #[]
  resolved := Array.replicate 124 none
  statics := none }

def pool1 : Array CpInfo := pool [(2, .class_ 4), (1, u "java/lang/Object"), (0, u "<init>"), (0, u "()V"), (0, .integer 2147483647), (0, .fieldref 9 10), (0, .class_ 11), (0, .nameAndType 12 13), (0, u "com/example/hamal/hamal/api/ErrorCode"), (0, u "INVALID_REQUEST"), (0, u "Lcom/example/hamal/hamal/api/ErrorCode;"), (0, .fieldref 9 15), (0, .nameAndType 16 13), (0, u "UNAUTHORIZED"), (0, .fieldref 9 18), (0, .nameAndType 19 13), (0, u "FORBIDDEN"), (0, .fieldref 9 21), (0, .nameAndType 22 13), (0, u "NOT_FOUND"), (0, .fieldref 9 24), (0, .nameAndType 25 13), (0, u "CONFLICT"), (0, .fieldref 9 27), (0, .nameAndType 28 13), (0, u "GONE"), (0, .fieldref 9 30), (0, .nameAndType 31 13), (0, u "TOO_MANY_REQUESTS"), (0, .fieldref 9 33), (0, .nameAndType 34 13), (0, u "INTERNAL"), (0, .fieldref 9 36), (0, .nameAndType 37 13), (0, u "UNAVAILABLE"), (0, .class_ 39), (0, u "java/lang/String"), (0, .methodref 38 41), (0, .nameAndType 5 42), (0, u "([C)V"), (0, .class_ 44), (0, u "com/example/hamal/hamal/api/ApiException"), (0, .methodref 46 47), (0, .class_ 48), (0, .nameAndType 49 50), (0, u "com/example/hamal/hamal/api/ApiExceptionRetryAfterSecondsPinLaw"), (0, u "pick"), (0, u "(I)Lcom/example/hamal/hamal/api/ErrorCode;"), (0, .methodref 43 52), (0, .nameAndType 5 53), (0, u "(Lcom/example/hamal/hamal/api/ErrorCode;Ljava/lang/String;)V"), (0, .methodref 43 55), (0, .nameAndType 56 57), (0, u "tooSoon"), (0, u "(Ljava/lang/String;I)Lcom/example/hamal/hamal/api/ApiException;"), (0, .methodref 43 59), (0, .nameAndType 60 61), (0, u "retryAfterSeconds"), (0, u "()Ljava/util/OptionalInt;"), (0, .methodref 63 64), (0, .class_ 65), (0, .nameAndType 66 67), (0, u "java/util/OptionalInt"), (0, u "isPresent"), (0, u "()Z"), (0, .methodref 63 69), (0, .nameAndType 70 71), (0, u "getAsInt"), (0, u "()I"), (3, u "law"), (0, u "(IIII)Z")] 4

def k1m0 : Method := { name := "<init>", desc := "()V", sig := { parameters := [], returnType := none }, accessFlags := 1, code := none }
def k1c1 : Code := { maxStack := 2, maxLocals := 2, code := method_2_code, exceptionTable := #[], attributes := #[] }
def k1m1 : Method := { name := "pick", desc := "(I)Lcom/example/hamal/hamal/api/ErrorCode;", sig := { parameters := [.int], returnType := some (.object "com/example/hamal/hamal/api/ErrorCode") }, accessFlags := 10, code := some k1c1 }
def k1c2 : Code := { maxStack := 4, maxLocals := 11, code := code, exceptionTable := #[], attributes := #[] }
def k1m2 : Method := { name := "law", desc := "(IIII)Z", sig := { parameters := [.int, .int, .int, .int], returnType := some .boolean }, accessFlags := 9, code := some k1c2 }
/-- com/example/hamal/hamal/api/ApiExceptionRetryAfterSecondsPinLaw -/
def k1 : Class := { plain "com/example/hamal/hamal/api/ApiExceptionRetryAfterSecondsPinLaw" (some 0) with
  accessFlags := 49
  interfaces := #[]
  cf := some (fileOf pool1 46 #[] #[{ accessFlags := 1, nameIndex := 5, descriptorIndex := 6, attributes := #[] }, { accessFlags := 10, nameIndex := 49, descriptorIndex := 50, attributes := #[] }, { accessFlags := 9, nameIndex := 75, descriptorIndex := 76, attributes := #[] }] 49 2 #[] #[])
  fields := #[]
  methods := #[k1m0, k1m1, k1m2]
  instanceTypes := #[]
  staticTypes := #[]
  resolved := Array.replicate 81 none
  statics := none }

def pool2 : Array CpInfo := pool [(1, .class_ 2), (0, u "java/io/Serializable"), (0, .class_ 4), (0, u "java/lang/Object")] 2

/-- java/io/Serializable -/
def k2 : Class := { plain "java/io/Serializable" (some 0) with
  accessFlags := 1537
  interfaces := #[]
  cf := some (fileOf pool2 1 #[] #[] 1537 3 #[] #[])
  fields := #[]
  methods := #[]
  instanceTypes := #[]
  staticTypes := #[]
  resolved := Array.replicate 7 none
  statics := none }

def pool3 : Array CpInfo := pool [(1, .class_ 2), (0, u "java/lang/Comparable"), (0, .class_ 4), (0, u "java/lang/Object")] 7

/-- java/lang/Comparable -/
def k3 : Class := { plain "java/lang/Comparable" (some 0) with
  accessFlags := 1537
  interfaces := #[]
  cf := some (fileOf pool3 1 #[] #[] 1537 3 #[] #[])
  fields := #[]
  methods := #[]
  instanceTypes := #[]
  staticTypes := #[]
  resolved := Array.replicate 12 none
  statics := none }

def pool4 : Array CpInfo := pool [(2, .class_ 4), (1, u "java/lang/CharSequence"), (42, .class_ 48), (0, u "java/lang/CharSequence$1CodePointIterator"), (10, .class_ 60), (0, u "java/lang/CharSequence$1CharIterator"), (5, .class_ 67), (0, u "java/lang/Object")] 63

/-- java/lang/CharSequence -/
def k4 : Class := { plain "java/lang/CharSequence" (some 0) with
  accessFlags := 1537
  interfaces := #[]
  cf := some (fileOf pool4 2 #[.nestMembers #[47, 59]] #[] 1537 66 #[] #[])
  fields := #[]
  methods := #[]
  instanceTypes := #[]
  staticTypes := #[]
  resolved := Array.replicate 131 none
  statics := none }

def pool5 : Array CpInfo := pool [(1, .class_ 2), (0, u "java/lang/constant/Constable"), (0, .class_ 4), (0, u "java/lang/Object")] 6

/-- java/lang/constant/Constable -/
def k5 : Class := { plain "java/lang/constant/Constable" (some 0) with
  accessFlags := 1537
  interfaces := #[]
  cf := some (fileOf pool5 1 #[] #[] 1537 3 #[] #[])
  fields := #[]
  methods := #[]
  instanceTypes := #[]
  staticTypes := #[]
  resolved := Array.replicate 11 none
  statics := none }

def pool6 : Array CpInfo := pool [(1, .class_ 2), (0, u "java/lang/constant/ConstantDesc"), (0, .class_ 4), (0, u "java/lang/Object")] 32

/-- java/lang/constant/ConstantDesc -/
def k6 : Class := { plain "java/lang/constant/ConstantDesc" (some 0) with
  accessFlags := 1537
  interfaces := #[]
  cf := some (fileOf pool6 1 #[] #[] 1537 3 #[] #[])
  fields := #[]
  methods := #[]
  instanceTypes := #[]
  staticTypes := #[]
  resolved := Array.replicate 37 none
  statics := none }

def pool7 : Array CpInfo := pool [(1, .methodref 2 3), (0, .class_ 4), (0, .nameAndType 5 6), (0, u "java/lang/Object"), (0, u "<init>"), (0, u "()V"), (2, .fieldref 10 11), (0, .class_ 12), (0, .nameAndType 13 14), (0, u "java/lang/String"), (0, u "value"), (0, u "[B"), (0, .fieldref 10 16), (0, .nameAndType 17 18), (0, u "coder"), (0, u "B"), (2, u "hash"), (0, u "I"), (2, u "hashIsZero"), (0, u "Z"), (0, .methodref 10 28), (0, .nameAndType 5 29), (0, u "([CIILjava/lang/Void;)V"), (8, .fieldref 10 39), (0, .nameAndType 40 26), (0, u "COMPACT_STRINGS"), (1, .class_ 44), (1, u "java/lang/StringUTF16"), (0, u "compress"), (1, .methodref 42 48), (0, .nameAndType 49 50), (0, u "coderFromArrayLen"), (0, u "([BI)B"), (126, .methodref 42 178), (0, .nameAndType 45 179), (0, u "([CII)[B"), (395, .class_ 576), (0, u "java/lang/CharSequence"), (22, u "CASE_INSENSITIVE_ORDER"), (0, u "Ljava/util/Comparator;"), (409, u "([C)V"), (90, u "serialPersistentFields"), (0, u "[Ljava/io/ObjectStreamField;"), (0, .class_ 1104), (0, u "java/lang/String$CaseInsensitiveComparator"), (1, .class_ 1107), (0, u "java/io/Serializable"), (0, .class_ 1109), (0, u "java/lang/Comparable"), (0, .class_ 1111), (0, u "java/lang/constant/Constable"), (0, .class_ 1113), (0, u "java/lang/constant/ConstantDesc"), (2, u "serialVersionUID"), (0, u "J"), (3, u "REPL"), (0, u "C"), (2, u "LATIN1"), (1, u "UTF16")] 323

def k7m0 : Method := { name := "<init>", desc := "()V", sig := { parameters := [], returnType := none }, accessFlags := 1, code := none }
def k7c1 : Code := { maxStack := 5, maxLocals := 2, code := jdk_42_method_3_code, exceptionTable := #[], attributes := #[] }
def k7m1 : Method := { name := "<init>", desc := "([C)V", sig := { parameters := [(.array .char)], returnType := none }, accessFlags := 1, code := some k7c1 }
def k7c2 : Code := { maxStack := 4, maxLocals := 6, code := jdk_42_method_149_code, exceptionTable := #[], attributes := #[] }
def k7m2 : Method := { name := "<init>", desc := "([CIILjava/lang/Void;)V", sig := { parameters := [(.array .char), .int, .int, (.object "java/lang/Void")], returnType := none }, accessFlags := 2, code := some k7c2 }
/-- java/lang/String -/
def k7 : Class := { plain "java/lang/String" (some 0) with
  accessFlags := 49
  interfaces := #[2, 3, 4, 5, 6]
  cf := some (fileOf pool7 10 #[.nestMembers #[1103]] #[{ accessFlags := 1, nameIndex := 5, descriptorIndex := 6, attributes := #[] }, { accessFlags := 1, nameIndex := 5, descriptorIndex := 1010, attributes := #[] }, { accessFlags := 2, nameIndex := 5, descriptorIndex := 29, attributes := #[] }] 49 2 #[1106, 1108, 575, 1110, 1112] #[{ accessFlags := 18, nameIndex := 13, descriptorIndex := 14, attributes := #[] }, { accessFlags := 18, nameIndex := 17, descriptorIndex := 18, attributes := #[] }, { accessFlags := 2, nameIndex := 21, descriptorIndex := 22, attributes := #[] }, { accessFlags := 2, nameIndex := 25, descriptorIndex := 26, attributes := #[] }, { accessFlags := 26, nameIndex := 1116, descriptorIndex := 1117, attributes := #[] }, { accessFlags := 24, nameIndex := 40, descriptorIndex := 26, attributes := #[] }, { accessFlags := 26, nameIndex := 1101, descriptorIndex := 1102, attributes := #[] }, { accessFlags := 26, nameIndex := 1121, descriptorIndex := 1122, attributes := #[] }, { accessFlags := 25, nameIndex := 599, descriptorIndex := 600, attributes := #[] }, { accessFlags := 24, nameIndex := 1125, descriptorIndex := 18, attributes := #[] }, { accessFlags := 24, nameIndex := 1127, descriptorIndex := 18, attributes := #[] }])
  fields := #[{ name := "value", type := (.array .byte), accessFlags := 18, slot := 0, constantValue := 0 }, { name := "coder", type := .byte, accessFlags := 18, slot := 1, constantValue := 0 }, { name := "hash", type := .int, accessFlags := 2, slot := 2, constantValue := 0 }, { name := "hashIsZero", type := .boolean, accessFlags := 2, slot := 3, constantValue := 0 }, { name := "serialVersionUID", type := .long, accessFlags := 26, slot := 0, constantValue := 0 }, { name := "COMPACT_STRINGS", type := .boolean, accessFlags := 24, slot := 1, constantValue := 0 }, { name := "serialPersistentFields", type := (.array (.object "java/io/ObjectStreamField")), accessFlags := 26, slot := 2, constantValue := 0 }, { name := "REPL", type := .char, accessFlags := 26, slot := 3, constantValue := 0 }, { name := "CASE_INSENSITIVE_ORDER", type := (.object "java/util/Comparator"), accessFlags := 25, slot := 4, constantValue := 0 }, { name := "LATIN1", type := .byte, accessFlags := 24, slot := 5, constantValue := 0 }, { name := "UTF16", type := .byte, accessFlags := 24, slot := 6, constantValue := 0 }]
  methods := #[k7m0, k7m1, k7m2]
  instanceTypes := #[(.array .byte), .byte, .int, .boolean]
  staticTypes := #[.long, .boolean, (.array (.object "java/io/ObjectStreamField")), .char, (.object "java/util/Comparator"), .byte, .byte]
  resolved := Array.replicate 1451 none
  statics := some 0 }

def pool8 : Array CpInfo := pool [(6, .class_ 8), (1, u "java/lang/Object"), (0, u "<init>"), (0, u "()V"), (1, .class_ 14), (1, u "java/lang/StringUTF16"), (31, u "$assertionsDisabled"), (0, u "Z"), (13, u "HI_BYTE_SHIFT"), (0, u "I"), (2, u "LO_BYTE_SHIFT"), (49, .methodref 12 116), (0, .nameAndType 117 118), (0, u "compress"), (0, u "([CI[BII)I"), (3, u "([CII)[B"), (138, u "coderFromArrayLen"), (0, u "([BI)B"), (106, .class_ 371), (1, u "java/lang/StringUTF16$LinesSpliterator"), (58, u "MAX_LENGTH"), (196, .class_ 628), (0, u "java/lang/StringUTF16$CodePointsSpliterator"), (0, .class_ 630), (0, u "java/lang/StringUTF16$CharsSpliterator")] 4

def k8m0 : Method := { name := "<init>", desc := "()V", sig := { parameters := [], returnType := none }, accessFlags := 0, code := none }
def k8c1 : Code := { maxStack := 2, maxLocals := 2, code := jdk_52_method_15_code, exceptionTable := #[], attributes := #[] }
def k8m1 : Method := { name := "coderFromArrayLen", desc := "([BI)B", sig := { parameters := [(.array .byte), .int], returnType := some .byte }, accessFlags := 8, code := some k8c1 }
def k8c2 : Code := { maxStack := 5, maxLocals := 6, code := jdk_52_method_16_code, exceptionTable := #[], attributes := #[] }
def k8m2 : Method := { name := "compress", desc := "([CII)[B", sig := { parameters := [(.array .char), .int, .int], returnType := some (.array .byte) }, accessFlags := 9, code := some k8c2 }
def k8c3 : Code := { maxStack := 3, maxLocals := 7, code := jdk_52_method_21_code, exceptionTable := #[], attributes := #[] }
def k8m3 : Method := { name := "compress", desc := "([CI[BII)I", sig := { parameters := [(.array .char), .int, (.array .byte), .int, .int], returnType := some .int }, accessFlags := 9, code := some k8c3 }
/-- java/lang/StringUTF16 -/
def k8 : Class := { plain "java/lang/StringUTF16" (some 0) with
  accessFlags := 48
  interfaces := #[]
  cf := some (fileOf pool8 12 #[.nestMembers #[627, 629, 369]] #[{ accessFlags := 0, nameIndex := 9, descriptorIndex := 10, attributes := #[] }, { accessFlags := 8, nameIndex := 261, descriptorIndex := 262, attributes := #[] }, { accessFlags := 9, nameIndex := 117, descriptorIndex := 122, attributes := #[] }, { accessFlags := 9, nameIndex := 117, descriptorIndex := 118, attributes := #[] }] 48 6 #[] #[{ accessFlags := 26, nameIndex := 61, descriptorIndex := 62, attributes := #[] }, { accessFlags := 26, nameIndex := 65, descriptorIndex := 62, attributes := #[] }, { accessFlags := 24, nameIndex := 430, descriptorIndex := 62, attributes := #[] }, { accessFlags := 4120, nameIndex := 46, descriptorIndex := 47, attributes := #[] }])
  fields := #[{ name := "HI_BYTE_SHIFT", type := .int, accessFlags := 26, slot := 0, constantValue := 0 }, { name := "LO_BYTE_SHIFT", type := .int, accessFlags := 26, slot := 1, constantValue := 0 }, { name := "MAX_LENGTH", type := .int, accessFlags := 24, slot := 2, constantValue := 0 }, { name := "$assertionsDisabled", type := .boolean, accessFlags := 4120, slot := 3, constantValue := 0 }]
  methods := #[k8m0, k8m1, k8m2, k8m3]
  instanceTypes := #[]
  staticTypes := #[.int, .int, .int, .boolean]
  resolved := Array.replicate 635 none
  statics := none }

def pool9 : Array CpInfo := pool [(1, .methodref 2 3), (0, .class_ 4), (0, .nameAndType 5 6), (0, u "java/lang/Object"), (0, u "<init>"), (0, u "()V"), (0, .fieldref 8 9), (0, .class_ 10), (0, .nameAndType 11 12), (0, u "java/lang/Throwable"), (0, u "cause"), (0, u "Ljava/lang/Throwable;"), (0, .fieldref 8 14), (0, .nameAndType 15 16), (0, u "UNASSIGNED_STACK"), (0, u "[Ljava/lang/StackTraceElement;"), (0, .fieldref 8 18), (0, .nameAndType 19 16), (0, u "stackTrace"), (0, .fieldref 8 21), (0, .nameAndType 22 23), (0, u "SUPPRESSED_SENTINEL"), (0, u "Ljava/util/List;"), (0, .fieldref 8 25), (0, .nameAndType 26 23), (0, u "suppressedExceptions"), (0, .methodref 8 28), (0, .nameAndType 29 30), (0, u "fillInStackTrace"), (0, u "()Ljava/lang/Throwable;"), (0, .fieldref 8 32), (0, .nameAndType 33 34), (0, u "detailMessage"), (0, u "Ljava/lang/String;"), (58, .class_ 94), (0, u "java/lang/Throwable$WrappedPrintStream"), (6, .class_ 103), (1, u "java/lang/Throwable$PrintStreamOrWriter"), (61, u "$assertionsDisabled"), (0, u "Z"), (26, .class_ 194), (0, u "java/lang/Throwable$WrappedPrintWriter"), (3, .fieldref 8 199), (0, .nameAndType 200 201), (0, u "backtrace"), (0, u "Ljava/lang/Object;"), (0, .methodref 8 203), (0, .nameAndType 29 204), (0, u "(I)Ljava/lang/Throwable;"), (6, u "depth"), (0, u "I"), (10, u "(Ljava/lang/String;)V"), (45, .class_ 271), (1, u "java/lang/Throwable$SentinelHolder"), (32, u "EMPTY_THROWABLE_ARRAY"), (0, u "[Ljava/lang/Throwable;"), (12, .class_ 319), (0, u "java/io/Serializable"), (0, u "serialVersionUID"), (0, u "J"), (5, u "NULL_CAUSE_MESSAGE"), (0, u "SELF_SUPPRESSION_MESSAGE"), (0, u "CAUSE_CAPTION"), (0, u "SUPPRESSED_CAPTION")] 73

def k9c0 : Code := { maxStack := 2, maxLocals := 1, code := jdk_78_method_1_code, exceptionTable := #[], attributes := #[] }
def k9m0 : Method := { name := "<init>", desc := "()V", sig := { parameters := [], returnType := none }, accessFlags := 1, code := some k9c0 }
def k9c1 : Code := { maxStack := 2, maxLocals := 2, code := jdk_78_method_2_code, exceptionTable := #[], attributes := #[] }
def k9m1 : Method := { name := "<init>", desc := "(Ljava/lang/String;)V", sig := { parameters := [(.object "java/lang/String")], returnType := none }, accessFlags := 1, code := some k9c1 }
def k9c2 : Code := { maxStack := 2, maxLocals := 1, code := ⟨#[0x2a, 0xb4, 0x00, 0x11, 0xc7, 0x00, 0x0a, 0x2a, 0xb4, 0x00, 0xc6, 0xc6, 0x00, 0x10, 0x2a, 0x03, 0xb6, 0x00, 0xca, 0x57, 0x2a, 0xb2, 0x00, 0x0d, 0xb5, 0x00, 0x11, 0x2a, 0xb0]⟩, exceptionTable := #[], attributes := #[] }
def k9m2 : Method := { name := "fillInStackTrace", desc := "()Ljava/lang/Throwable;", sig := { parameters := [], returnType := some (.object "java/lang/Throwable") }, accessFlags := 33, code := some k9c2 }
def k9m3 : Method := { name := "fillInStackTrace", desc := "(I)Ljava/lang/Throwable;", sig := { parameters := [.int], returnType := some (.object "java/lang/Throwable") }, accessFlags := 258, code := none }
/-- java/lang/Throwable -/
def k9 : Class := { plain "java/lang/Throwable" (some 0) with
  accessFlags := 33
  interfaces := #[2]
  cf := some (fileOf pool9 8 #[.nestMembers #[193, 93, 101, 269]] #[{ accessFlags := 1, nameIndex := 5, descriptorIndex := 6, attributes := #[] }, { accessFlags := 1, nameIndex := 5, descriptorIndex := 223, attributes := #[] }, { accessFlags := 33, nameIndex := 29, descriptorIndex := 30, attributes := #[] }, { accessFlags := 258, nameIndex := 29, descriptorIndex := 204, attributes := #[] }] 33 2 #[318] #[{ accessFlags := 26, nameIndex := 320, descriptorIndex := 321, attributes := #[] }, { accessFlags := 130, nameIndex := 200, descriptorIndex := 201, attributes := #[] }, { accessFlags := 2, nameIndex := 33, descriptorIndex := 34, attributes := #[] }, { accessFlags := 26, nameIndex := 15, descriptorIndex := 16, attributes := #[] }, { accessFlags := 2, nameIndex := 11, descriptorIndex := 12, attributes := #[] }, { accessFlags := 2, nameIndex := 19, descriptorIndex := 16, attributes := #[] }, { accessFlags := 130, nameIndex := 211, descriptorIndex := 212, attributes := #[] }, { accessFlags := 26, nameIndex := 22, descriptorIndex := 23, attributes := #[] }, { accessFlags := 2, nameIndex := 26, descriptorIndex := 23, attributes := #[] }, { accessFlags := 26, nameIndex := 327, descriptorIndex := 34, attributes := #[] }, { accessFlags := 26, nameIndex := 328, descriptorIndex := 34, attributes := #[] }, { accessFlags := 26, nameIndex := 329, descriptorIndex := 34, attributes := #[] }, { accessFlags := 26, nameIndex := 330, descriptorIndex := 34, attributes := #[] }, { accessFlags := 26, nameIndex := 304, descriptorIndex := 305, attributes := #[] }, { accessFlags := 4120, nameIndex := 165, descriptorIndex := 166, attributes := #[] }])
  fields := #[{ name := "serialVersionUID", type := .long, accessFlags := 26, slot := 0, constantValue := 0 }, { name := "backtrace", type := (.object "java/lang/Object"), accessFlags := 130, slot := 0, constantValue := 0 }, { name := "detailMessage", type := (.object "java/lang/String"), accessFlags := 2, slot := 1, constantValue := 0 }, { name := "UNASSIGNED_STACK", type := (.array (.object "java/lang/StackTraceElement")), accessFlags := 26, slot := 1, constantValue := 0 }, { name := "cause", type := (.object "java/lang/Throwable"), accessFlags := 2, slot := 2, constantValue := 0 }, { name := "stackTrace", type := (.array (.object "java/lang/StackTraceElement")), accessFlags := 2, slot := 3, constantValue := 0 }, { name := "depth", type := .int, accessFlags := 130, slot := 4, constantValue := 0 }, { name := "SUPPRESSED_SENTINEL", type := (.object "java/util/List"), accessFlags := 26, slot := 2, constantValue := 0 }, { name := "suppressedExceptions", type := (.object "java/util/List"), accessFlags := 2, slot := 5, constantValue := 0 }, { name := "NULL_CAUSE_MESSAGE", type := (.object "java/lang/String"), accessFlags := 26, slot := 3, constantValue := 0 }, { name := "SELF_SUPPRESSION_MESSAGE", type := (.object "java/lang/String"), accessFlags := 26, slot := 4, constantValue := 0 }, { name := "CAUSE_CAPTION", type := (.object "java/lang/String"), accessFlags := 26, slot := 5, constantValue := 0 }, { name := "SUPPRESSED_CAPTION", type := (.object "java/lang/String"), accessFlags := 26, slot := 6, constantValue := 0 }, { name := "EMPTY_THROWABLE_ARRAY", type := (.array (.object "java/lang/Throwable")), accessFlags := 26, slot := 7, constantValue := 0 }, { name := "$assertionsDisabled", type := .boolean, accessFlags := 4120, slot := 8, constantValue := 0 }]
  methods := #[k9m0, k9m1, k9m2, k9m3]
  instanceTypes := #[(.object "java/lang/Object"), (.object "java/lang/String"), (.object "java/lang/Throwable"), (.array (.object "java/lang/StackTraceElement")), .int, (.object "java/util/List")]
  staticTypes := #[.long, (.array (.object "java/lang/StackTraceElement")), (.object "java/util/List"), (.object "java/lang/String"), (.object "java/lang/String"), (.object "java/lang/String"), (.object "java/lang/String"), (.array (.object "java/lang/Throwable")), .boolean]
  resolved := Array.replicate 404 none
  statics := some 1 }

def pool10 : Array CpInfo := pool [(2, .class_ 4), (1, u "java/lang/Throwable"), (0, u "<init>"), (0, u "()V"), (0, .methodref 2 8), (0, .nameAndType 5 9), (0, u "(Ljava/lang/String;)V"), (9, .class_ 20), (0, u "java/lang/Exception"), (0, u "serialVersionUID"), (0, u "J")] 17

def k10m0 : Method := { name := "<init>", desc := "()V", sig := { parameters := [], returnType := none }, accessFlags := 1, code := none }
def k10c1 : Code := { maxStack := 2, maxLocals := 2, code := jdk_59_method_2_code, exceptionTable := #[], attributes := #[] }
def k10m1 : Method := { name := "<init>", desc := "(Ljava/lang/String;)V", sig := { parameters := [(.object "java/lang/String")], returnType := none }, accessFlags := 1, code := some k10c1 }
/-- java/lang/Exception -/
def k10 : Class := { plain "java/lang/Exception" (some 9) with
  accessFlags := 33
  interfaces := #[]
  cf := some (fileOf pool10 19 #[] #[{ accessFlags := 1, nameIndex := 5, descriptorIndex := 6, attributes := #[] }, { accessFlags := 1, nameIndex := 5, descriptorIndex := 9, attributes := #[] }] 33 2 #[] #[{ accessFlags := 24, nameIndex := 21, descriptorIndex := 22, attributes := #[] }])
  fields := #[{ name := "serialVersionUID", type := .long, accessFlags := 24, slot := 0, constantValue := 0 }]
  methods := #[k10m0, k10m1]
  instanceTypes := #[(.object "java/lang/Object"), (.object "java/lang/String"), (.object "java/lang/Throwable"), (.array (.object "java/lang/StackTraceElement")), .int, (.object "java/util/List")]
  staticTypes := #[.long]
  resolved := Array.replicate 40 none
  statics := none }

def pool11 : Array CpInfo := pool [(2, .class_ 4), (1, u "java/lang/Exception"), (0, u "<init>"), (0, u "()V"), (0, .methodref 2 8), (0, .nameAndType 5 9), (0, u "(Ljava/lang/String;)V"), (9, .class_ 20), (0, u "java/lang/RuntimeException"), (0, u "serialVersionUID"), (0, u "J")] 17

def k11m0 : Method := { name := "<init>", desc := "()V", sig := { parameters := [], returnType := none }, accessFlags := 1, code := none }
def k11c1 : Code := { maxStack := 2, maxLocals := 2, code := jdk_58_method_2_code, exceptionTable := #[], attributes := #[] }
def k11m1 : Method := { name := "<init>", desc := "(Ljava/lang/String;)V", sig := { parameters := [(.object "java/lang/String")], returnType := none }, accessFlags := 1, code := some k11c1 }
/-- java/lang/RuntimeException -/
def k11 : Class := { plain "java/lang/RuntimeException" (some 10) with
  accessFlags := 33
  interfaces := #[]
  cf := some (fileOf pool11 19 #[] #[{ accessFlags := 1, nameIndex := 5, descriptorIndex := 6, attributes := #[] }, { accessFlags := 1, nameIndex := 5, descriptorIndex := 9, attributes := #[] }] 33 2 #[] #[{ accessFlags := 24, nameIndex := 21, descriptorIndex := 22, attributes := #[] }])
  fields := #[{ name := "serialVersionUID", type := .long, accessFlags := 24, slot := 0, constantValue := 0 }]
  methods := #[k11m0, k11m1]
  instanceTypes := #[(.object "java/lang/Object"), (.object "java/lang/String"), (.object "java/lang/Throwable"), (.array (.object "java/lang/StackTraceElement")), .int, (.object "java/util/List")]
  staticTypes := #[.long]
  resolved := Array.replicate 40 none
  statics := none }

def pool12 : Array CpInfo := pool [(1, .methodref 2 3), (0, .class_ 4), (0, .nameAndType 5 6), (0, u "com/example/hamal/hamal/api/ApiException"), (0, u "<init>"), (0, u "(Lcom/example/hamal/hamal/api/ErrorCode;Ljava/lang/String;Ljava/lang/Integer;)V"), (0, .methodref 8 9), (0, .class_ 10), (0, .nameAndType 5 11), (0, u "java/lang/RuntimeException"), (0, u "(Ljava/lang/String;)V"), (0, .fieldref 2 13), (0, .nameAndType 14 15), (0, u "code"), (0, u "Lcom/example/hamal/hamal/api/ErrorCode;"), (0, .fieldref 2 17), (0, .nameAndType 18 19), (0, u "retryAfterSeconds"), (0, u "Ljava/lang/Integer;"), (1, .class_ 23), (1, u "com/example/hamal/hamal/api/ErrorCode"), (3, u "(Lcom/example/hamal/hamal/api/ErrorCode;Ljava/lang/String;)V"), (5, .methodref 34 35), (0, .class_ 36), (0, .nameAndType 37 38), (0, u "java/util/OptionalInt"), (0, u "empty"), (0, u "()Ljava/util/OptionalInt;"), (0, .methodref 40 41), (0, .class_ 42), (0, .nameAndType 43 44), (0, u "java/lang/Integer"), (0, u "intValue"), (0, u "()I"), (0, .methodref 34 46), (0, .nameAndType 47 48), (0, u "of"), (0, u "(I)Ljava/util/OptionalInt;"), (0, .fieldref 21 50), (0, .nameAndType 51 15), (0, u "TOO_MANY_REQUESTS"), (0, .methodref 40 53), (0, .nameAndType 54 55), (0, u "valueOf"), (0, u "(I)Ljava/lang/Integer;"), (3, u "serialVersionUID"), (0, u "J"), (11, u "tooSoon"), (0, u "(Ljava/lang/String;I)Lcom/example/hamal/hamal/api/ApiException;")] 3

def k12c0 : Code := { maxStack := 4, maxLocals := 3, code := prog_5_method_1_code, exceptionTable := #[], attributes := #[] }
def k12m0 : Method := { name := "<init>", desc := "(Lcom/example/hamal/hamal/api/ErrorCode;Ljava/lang/String;)V", sig := { parameters := [(.object "com/example/hamal/hamal/api/ErrorCode"), (.object "java/lang/String")], returnType := none }, accessFlags := 1, code := some k12c0 }
def k12c1 : Code := { maxStack := 2, maxLocals := 4, code := prog_5_method_2_code, exceptionTable := #[], attributes := #[] }
def k12m1 : Method := { name := "<init>", desc := "(Lcom/example/hamal/hamal/api/ErrorCode;Ljava/lang/String;Ljava/lang/Integer;)V", sig := { parameters := [(.object "com/example/hamal/hamal/api/ErrorCode"), (.object "java/lang/String"), (.object "java/lang/Integer")], returnType := none }, accessFlags := 2, code := some k12c1 }
def k12c2 : Code := { maxStack := 1, maxLocals := 1, code := prog_5_method_6_code, exceptionTable := #[], attributes := #[] }
def k12m2 : Method := { name := "retryAfterSeconds", desc := "()Ljava/util/OptionalInt;", sig := { parameters := [], returnType := some (.object "java/util/OptionalInt") }, accessFlags := 1, code := some k12c2 }
def k12c3 : Code := { maxStack := 5, maxLocals := 2, code := prog_5_method_7_code, exceptionTable := #[], attributes := #[] }
def k12m3 : Method := { name := "tooSoon", desc := "(Ljava/lang/String;I)Lcom/example/hamal/hamal/api/ApiException;", sig := { parameters := [(.object "java/lang/String"), .int], returnType := some (.object "com/example/hamal/hamal/api/ApiException") }, accessFlags := 9, code := some k12c3 }
/-- com/example/hamal/hamal/api/ApiException -/
def k12 : Class := { plain "com/example/hamal/hamal/api/ApiException" (some 11) with
  accessFlags := 33
  interfaces := #[]
  cf := some (fileOf pool12 2 #[] #[{ accessFlags := 1, nameIndex := 5, descriptorIndex := 27, attributes := #[] }, { accessFlags := 2, nameIndex := 5, descriptorIndex := 6, attributes := #[] }, { accessFlags := 1, nameIndex := 18, descriptorIndex := 38, attributes := #[] }, { accessFlags := 9, nameIndex := 72, descriptorIndex := 73, attributes := #[] }] 33 8 #[] #[{ accessFlags := 26, nameIndex := 59, descriptorIndex := 60, attributes := #[] }, { accessFlags := 18, nameIndex := 14, descriptorIndex := 15, attributes := #[] }, { accessFlags := 18, nameIndex := 18, descriptorIndex := 19, attributes := #[] }])
  fields := #[{ name := "serialVersionUID", type := .long, accessFlags := 26, slot := 0, constantValue := 0 }, { name := "code", type := (.object "com/example/hamal/hamal/api/ErrorCode"), accessFlags := 18, slot := 6, constantValue := 0 }, { name := "retryAfterSeconds", type := (.object "java/lang/Integer"), accessFlags := 18, slot := 7, constantValue := 0 }]
  methods := #[k12m0, k12m1, k12m2, k12m3]
  instanceTypes := #[(.object "java/lang/Object"), (.object "java/lang/String"), (.object "java/lang/Throwable"), (.array (.object "java/lang/StackTraceElement")), .int, (.object "java/util/List"), (.object "com/example/hamal/hamal/api/ErrorCode"), (.object "java/lang/Integer")]
  staticTypes := #[.long]
  resolved := Array.replicate 77 none
  statics := none }

def pool13 : Array CpInfo := pool [(2, .class_ 4), (1, u "java/lang/Enum"), (0, u "name"), (0, u "Ljava/lang/String;"), (2, u "ordinal"), (0, u "I"), (1, .class_ 14), (1, u "java/lang/Object"), (4, u "hash"), (86, .class_ 108), (1, u "java/lang/Enum$EnumDesc"), (2, .class_ 112), (0, u "java/lang/constant/Constable"), (0, .class_ 114), (0, u "java/lang/Comparable"), (0, .class_ 116), (0, u "java/io/Serializable")] 87

/-- java/lang/Enum -/
def k13 : Class := { plain "java/lang/Enum" (some 0) with
  accessFlags := 1057
  interfaces := #[5, 3, 2]
  cf := some (fileOf pool13 2 #[.nestMembers #[106]] #[] 1057 12 #[111, 113, 115] #[{ accessFlags := 18, nameIndex := 5, descriptorIndex := 6, attributes := #[] }, { accessFlags := 18, nameIndex := 9, descriptorIndex := 10, attributes := #[] }, { accessFlags := 2, nameIndex := 19, descriptorIndex := 10, attributes := #[] }])
  fields := #[{ name := "name", type := (.object "java/lang/String"), accessFlags := 18, slot := 0, constantValue := 0 }, { name := "ordinal", type := .int, accessFlags := 18, slot := 1, constantValue := 0 }, { name := "hash", type := .int, accessFlags := 2, slot := 2, constantValue := 0 }]
  methods := #[]
  instanceTypes := #[(.object "java/lang/String"), .int, .int]
  staticTypes := #[]
  resolved := Array.replicate 204 none
  statics := none }

def pool14 : Array CpInfo := pool [(1, .class_ 2), (0, u "com/example/hamal/hamal/api/ErrorCode"), (2, u "INVALID_REQUEST"), (0, u "Lcom/example/hamal/hamal/api/ErrorCode;"), (2, u "UNAUTHORIZED"), (2, u "FORBIDDEN"), (2, u "NOT_FOUND"), (2, u "CONFLICT"), (2, u "GONE"), (2, u "TOO_MANY_REQUESTS"), (2, u "INTERNAL"), (2, u "UNAVAILABLE"), (2, u "$VALUES"), (0, u "[Lcom/example/hamal/hamal/api/ErrorCode;"), (6, .class_ 43), (1, u "java/lang/Enum"), (8, u "status"), (0, u "I")] 46

/-- com/example/hamal/hamal/api/ErrorCode -/
def k14 : Class := { plain "com/example/hamal/hamal/api/ErrorCode" (some 13) with
  accessFlags := 16433
  interfaces := #[]
  cf := some (fileOf pool14 1 #[] #[] 16433 41 #[] #[{ accessFlags := 16409, nameIndex := 5, descriptorIndex := 6, attributes := #[] }, { accessFlags := 16409, nameIndex := 9, descriptorIndex := 6, attributes := #[] }, { accessFlags := 16409, nameIndex := 12, descriptorIndex := 6, attributes := #[] }, { accessFlags := 16409, nameIndex := 15, descriptorIndex := 6, attributes := #[] }, { accessFlags := 16409, nameIndex := 18, descriptorIndex := 6, attributes := #[] }, { accessFlags := 16409, nameIndex := 21, descriptorIndex := 6, attributes := #[] }, { accessFlags := 16409, nameIndex := 24, descriptorIndex := 6, attributes := #[] }, { accessFlags := 16409, nameIndex := 27, descriptorIndex := 6, attributes := #[] }, { accessFlags := 16409, nameIndex := 30, descriptorIndex := 6, attributes := #[] }, { accessFlags := 18, nameIndex := 52, descriptorIndex := 53, attributes := #[] }, { accessFlags := 4122, nameIndex := 33, descriptorIndex := 34, attributes := #[] }])
  fields := #[{ name := "INVALID_REQUEST", type := (.object "com/example/hamal/hamal/api/ErrorCode"), accessFlags := 16409, slot := 0, constantValue := 0 }, { name := "UNAUTHORIZED", type := (.object "com/example/hamal/hamal/api/ErrorCode"), accessFlags := 16409, slot := 1, constantValue := 0 }, { name := "FORBIDDEN", type := (.object "com/example/hamal/hamal/api/ErrorCode"), accessFlags := 16409, slot := 2, constantValue := 0 }, { name := "NOT_FOUND", type := (.object "com/example/hamal/hamal/api/ErrorCode"), accessFlags := 16409, slot := 3, constantValue := 0 }, { name := "CONFLICT", type := (.object "com/example/hamal/hamal/api/ErrorCode"), accessFlags := 16409, slot := 4, constantValue := 0 }, { name := "GONE", type := (.object "com/example/hamal/hamal/api/ErrorCode"), accessFlags := 16409, slot := 5, constantValue := 0 }, { name := "TOO_MANY_REQUESTS", type := (.object "com/example/hamal/hamal/api/ErrorCode"), accessFlags := 16409, slot := 6, constantValue := 0 }, { name := "INTERNAL", type := (.object "com/example/hamal/hamal/api/ErrorCode"), accessFlags := 16409, slot := 7, constantValue := 0 }, { name := "UNAVAILABLE", type := (.object "com/example/hamal/hamal/api/ErrorCode"), accessFlags := 16409, slot := 8, constantValue := 0 }, { name := "status", type := .int, accessFlags := 18, slot := 3, constantValue := 0 }, { name := "$VALUES", type := (.array (.object "com/example/hamal/hamal/api/ErrorCode")), accessFlags := 4122, slot := 9, constantValue := 0 }]
  methods := #[]
  instanceTypes := #[(.object "java/lang/String"), .int, .int, .int]
  staticTypes := #[(.object "com/example/hamal/hamal/api/ErrorCode"), (.object "com/example/hamal/hamal/api/ErrorCode"), (.object "com/example/hamal/hamal/api/ErrorCode"), (.object "com/example/hamal/hamal/api/ErrorCode"), (.object "com/example/hamal/hamal/api/ErrorCode"), (.object "com/example/hamal/hamal/api/ErrorCode"), (.object "com/example/hamal/hamal/api/ErrorCode"), (.object "com/example/hamal/hamal/api/ErrorCode"), (.object "com/example/hamal/hamal/api/ErrorCode"), (.array (.object "com/example/hamal/hamal/api/ErrorCode"))]
  resolved := Array.replicate 100 none
  statics := some 2 }

def pool15 : Array CpInfo := pool [(1, .methodref 2 3), (0, .class_ 4), (0, .nameAndType 5 6), (0, u "java/lang/Object"), (0, u "<init>"), (0, u "()V"), (1, .class_ 10), (1, u "java/lang/Number"), (2, .class_ 14), (0, u "java/io/Serializable"), (0, u "serialVersionUID"), (0, u "J")] 20

def k15c0 : Code := { maxStack := 1, maxLocals := 1, code := jdk_18_method_1_code, exceptionTable := #[], attributes := #[] }
def k15m0 : Method := { name := "<init>", desc := "()V", sig := { parameters := [], returnType := none }, accessFlags := 1, code := some k15c0 }
/-- java/lang/Number -/
def k15 : Class := { plain "java/lang/Number" (some 0) with
  accessFlags := 1057
  interfaces := #[2]
  cf := some (fileOf pool15 8 #[] #[{ accessFlags := 1, nameIndex := 5, descriptorIndex := 6, attributes := #[] }] 1057 2 #[13] #[{ accessFlags := 26, nameIndex := 15, descriptorIndex := 16, attributes := #[] }])
  fields := #[{ name := "serialVersionUID", type := .long, accessFlags := 26, slot := 0, constantValue := 0 }]
  methods := #[k15m0]
  instanceTypes := #[]
  staticTypes := #[.long]
  resolved := Array.replicate 37 none
  statics := none }

def pool16 : Array CpInfo := pool [(1, .class_ 2), (0, u "java/lang/Integer"), (16, u "digits"), (0, u "[C"), (46, u "<init>"), (17, u "DigitOnes"), (0, u "[B"), (2, u "DigitTens"), (10, .nameAndType 67 101), (0, u "()V"), (19, u "()I"), (65, u "valueOf"), (0, u "(I)Ljava/lang/Integer;"), (0, .class_ 190), (0, u "java/lang/Integer$IntegerCache"), (0, .fieldref 189 192), (0, .nameAndType 193 194), (0, u "high"), (0, u "I"), (0, .fieldref 189 196), (0, .nameAndType 197 198), (0, u "cache"), (0, u "[Ljava/lang/Integer;"), (0, .methodref 1 200), (0, .nameAndType 67 201), (0, u "(I)V"), (0, .methodref 203 100), (0, .class_ 204), (0, u "java/lang/Number"), (0, .fieldref 1 206), (0, .nameAndType 207 194), (0, u "value"), (5, u "intValue"), (88, u "TYPE"), (0, u "Ljava/lang/Class;"), (0, .class_ 305), (0, u "java/lang/Comparable"), (0, .class_ 307), (0, u "java/lang/constant/Constable"), (0, .class_ 309), (0, u "java/lang/constant/ConstantDesc"), (0, u "MIN_VALUE"), (1, u "MAX_VALUE"), (3, u "SIZE"), (1, u "BYTES"), (1, u "serialVersionUID"), (0, u "J")] 131

def k16c0 : Code := { maxStack := 3, maxLocals := 1, code := jdk_33_method_22_code, exceptionTable := #[], attributes := #[] }
def k16m0 : Method := { name := "valueOf", desc := "(I)Ljava/lang/Integer;", sig := { parameters := [.int], returnType := some (.object "java/lang/Integer") }, accessFlags := 9, code := some k16c0 }
def k16c1 : Code := { maxStack := 2, maxLocals := 2, code := jdk_33_method_23_code, exceptionTable := #[], attributes := #[] }
def k16m1 : Method := { name := "<init>", desc := "(I)V", sig := { parameters := [.int], returnType := none }, accessFlags := 1, code := some k16c1 }
def k16c2 : Code := { maxStack := 1, maxLocals := 1, code := jdk_33_method_27_code, exceptionTable := #[], attributes := #[] }
def k16m2 : Method := { name := "intValue", desc := "()I", sig := { parameters := [], returnType := some .int }, accessFlags := 1, code := some k16c2 }
/-- java/lang/Integer -/
def k16 : Class := { plain "java/lang/Integer" (some 15) with
  accessFlags := 49
  interfaces := #[3, 5, 6]
  cf := some (fileOf pool16 1 #[.nestMembers #[189]] #[{ accessFlags := 9, nameIndex := 187, descriptorIndex := 188, attributes := #[] }, { accessFlags := 1, nameIndex := 67, descriptorIndex := 201, attributes := #[] }, { accessFlags := 1, nameIndex := 213, descriptorIndex := 121, attributes := #[] }] 49 203 #[304, 306, 308] #[{ accessFlags := 25, nameIndex := 310, descriptorIndex := 194, attributes := #[] }, { accessFlags := 25, nameIndex := 312, descriptorIndex := 194, attributes := #[] }, { accessFlags := 25, nameIndex := 302, descriptorIndex := 303, attributes := #[] }, { accessFlags := 24, nameIndex := 19, descriptorIndex := 20, attributes := #[] }, { accessFlags := 24, nameIndex := 89, descriptorIndex := 86, attributes := #[] }, { accessFlags := 24, nameIndex := 85, descriptorIndex := 86, attributes := #[] }, { accessFlags := 18, nameIndex := 207, descriptorIndex := 194, attributes := #[] }, { accessFlags := 25, nameIndex := 316, descriptorIndex := 194, attributes := #[] }, { accessFlags := 25, nameIndex := 318, descriptorIndex := 194, attributes := #[] }, { accessFlags := 26, nameIndex := 320, descriptorIndex := 321, attributes := #[] }])
  fields := #[{ name := "MIN_VALUE", type := .int, accessFlags := 25, slot := 0, constantValue := 0 }, { name := "MAX_VALUE", type := .int, accessFlags := 25, slot := 1, constantValue := 0 }, { name := "TYPE", type := (.object "java/lang/Class"), accessFlags := 25, slot := 2, constantValue := 0 }, { name := "digits", type := (.array .char), accessFlags := 24, slot := 3, constantValue := 0 }, { name := "DigitTens", type := (.array .byte), accessFlags := 24, slot := 4, constantValue := 0 }, { name := "DigitOnes", type := (.array .byte), accessFlags := 24, slot := 5, constantValue := 0 }, { name := "value", type := .int, accessFlags := 18, slot := 0, constantValue := 0 }, { name := "SIZE", type := .int, accessFlags := 25, slot := 6, constantValue := 0 }, { name := "BYTES", type := .int, accessFlags := 25, slot := 7, constantValue := 0 }, { name := "serialVersionUID", type := .long, accessFlags := 26, slot := 8, constantValue := 0 }]
  methods := #[k16m0, k16m1, k16m2]
  instanceTypes := #[.int]
  staticTypes := #[.int, .int, (.object "java/lang/Class"), (.array .char), (.array .byte), (.array .byte), .int, .int, .long]
  resolved := Array.replicate 453 none
  statics := none }

def pool17 : Array CpInfo := pool [(2, .class_ 4), (1, u "java/lang/Object"), (0, u "<init>"), (0, u "()V"), (0, .class_ 8), (0, u "java/lang/Integer"), (7, .class_ 18), (1, u "java/lang/Integer$IntegerCache"), (0, u "$assertionsDisabled"), (0, u "Z"), (26, u "high"), (0, u "I"), (8, u "archivedCache"), (0, u "[Ljava/lang/Integer;"), (12, u "cache"), (0, u "low")] 27

def k17m0 : Method := { name := "<init>", desc := "()V", sig := { parameters := [], returnType := none }, accessFlags := 2, code := none }
/-- java/lang/Integer$IntegerCache -/
def k17 : Class := { plain "java/lang/Integer$IntegerCache" (some 0) with
  accessFlags := 48
  interfaces := #[]
  cf := some (fileOf pool17 16 #[.nestHost 7] #[{ accessFlags := 2, nameIndex := 5, descriptorIndex := 6, attributes := #[] }] 48 2 #[] #[{ accessFlags := 24, nameIndex := 72, descriptorIndex := 48, attributes := #[] }, { accessFlags := 24, nameIndex := 47, descriptorIndex := 48, attributes := #[] }, { accessFlags := 24, nameIndex := 71, descriptorIndex := 58, attributes := #[] }, { accessFlags := 8, nameIndex := 57, descriptorIndex := 58, attributes := #[] }, { accessFlags := 4120, nameIndex := 19, descriptorIndex := 20, attributes := #[] }])
  fields := #[{ name := "low", type := .int, accessFlags := 24, slot := 0, constantValue := 0 }, { name := "high", type := .int, accessFlags := 24, slot := 1, constantValue := 0 }, { name := "cache", type := (.array (.object "java/lang/Integer")), accessFlags := 24, slot := 2, constantValue := 0 }, { name := "archivedCache", type := (.array (.object "java/lang/Integer")), accessFlags := 8, slot := 3, constantValue := 0 }, { name := "$assertionsDisabled", type := .boolean, accessFlags := 4120, slot := 4, constantValue := 0 }]
  methods := #[k17m0]
  instanceTypes := #[]
  staticTypes := #[.int, .int, (.array (.object "java/lang/Integer")), (.array (.object "java/lang/Integer")), .boolean]
  resolved := Array.replicate 100 none
  statics := some 3 }

def pool18 : Array CpInfo := pool [(1, .methodref 2 3), (0, .class_ 4), (0, .nameAndType 5 6), (0, u "java/lang/Object"), (0, u "<init>"), (0, u "()V"), (0, .fieldref 8 9), (0, .class_ 10), (0, .nameAndType 11 12), (0, u "java/util/OptionalInt"), (0, u "isPresent"), (0, u "Z"), (0, .fieldref 8 14), (0, .nameAndType 15 16), (0, u "value"), (0, u "I"), (0, .fieldref 8 18), (0, .nameAndType 19 20), (0, u "EMPTY"), (0, u "Ljava/util/OptionalInt;"), (0, .methodref 8 22), (0, .nameAndType 5 23), (0, u "(I)V"), (21, u "of"), (3, u "empty"), (5, u "getAsInt"), (0, u "()I"), (39, u "()Ljava/util/OptionalInt;"), (0, u "(I)Ljava/util/OptionalInt;"), (1, u "()Z")] 36

def k18m0 : Method := { name := "<init>", desc := "()V", sig := { parameters := [], returnType := none }, accessFlags := 2, code := none }
def k18c1 : Code := { maxStack := 1, maxLocals := 0, code := jdk_2649_method_2_code, exceptionTable := #[], attributes := #[] }
def k18m1 : Method := { name := "empty", desc := "()Ljava/util/OptionalInt;", sig := { parameters := [], returnType := some (.object "java/util/OptionalInt") }, accessFlags := 9, code := some k18c1 }
def k18c2 : Code := { maxStack := 2, maxLocals := 2, code := jdk_2649_method_3_code, exceptionTable := #[], attributes := #[] }
def k18m2 : Method := { name := "<init>", desc := "(I)V", sig := { parameters := [.int], returnType := none }, accessFlags := 2, code := some k18c2 }
def k18c3 : Code := { maxStack := 3, maxLocals := 1, code := jdk_2649_method_4_code, exceptionTable := #[], attributes := #[] }
def k18m3 : Method := { name := "of", desc := "(I)Ljava/util/OptionalInt;", sig := { parameters := [.int], returnType := some (.object "java/util/OptionalInt") }, accessFlags := 9, code := some k18c3 }
def k18c4 : Code := { maxStack := 3, maxLocals := 1, code := jdk_2649_method_5_code, exceptionTable := #[], attributes := #[] }
def k18m4 : Method := { name := "getAsInt", desc := "()I", sig := { parameters := [], returnType := some .int }, accessFlags := 1, code := some k18c4 }
def k18c5 : Code := { maxStack := 1, maxLocals := 1, code := jdk_2649_method_6_code, exceptionTable := #[], attributes := #[] }
def k18m5 : Method := { name := "isPresent", desc := "()Z", sig := { parameters := [], returnType := some .boolean }, accessFlags := 1, code := some k18c5 }
/-- java/util/OptionalInt -/
def k18 : Class := { plain "java/util/OptionalInt" (some 0) with
  accessFlags := 49
  interfaces := #[]
  cf := some (fileOf pool18 8 #[] #[{ accessFlags := 2, nameIndex := 5, descriptorIndex := 6, attributes := #[] }, { accessFlags := 9, nameIndex := 49, descriptorIndex := 96, attributes := #[] }, { accessFlags := 2, nameIndex := 5, descriptorIndex := 23, attributes := #[] }, { accessFlags := 9, nameIndex := 45, descriptorIndex := 97, attributes := #[] }, { accessFlags := 1, nameIndex := 55, descriptorIndex := 56, attributes := #[] }, { accessFlags := 1, nameIndex := 11, descriptorIndex := 99, attributes := #[] }] 49 2 #[] #[{ accessFlags := 26, nameIndex := 19, descriptorIndex := 20, attributes := #[] }, { accessFlags := 18, nameIndex := 11, descriptorIndex := 12, attributes := #[] }, { accessFlags := 18, nameIndex := 15, descriptorIndex := 16, attributes := #[] }])
  fields := #[{ name := "EMPTY", type := (.object "java/util/OptionalInt"), accessFlags := 26, slot := 0, constantValue := 0 }, { name := "isPresent", type := .boolean, accessFlags := 18, slot := 0, constantValue := 0 }, { name := "value", type := .int, accessFlags := 18, slot := 1, constantValue := 0 }]
  methods := #[k18m0, k18m1, k18m2, k18m3, k18m4, k18m5]
  instanceTypes := #[.boolean, .int]
  staticTypes := #[(.object "java/util/OptionalInt")]
  resolved := Array.replicate 136 none
  statics := some 4 }

def pool19 : Array CpInfo := pool [(4, .class_ 6), (1, u "java/lang/Object"), (0, u "<init>"), (0, u "()V"), (5, .class_ 16), (1, u "java/lang/StringLatin1"), (104, u "$assertionsDisabled"), (0, u "Z"), (98, .class_ 223), (1, u "java/lang/StringLatin1$LinesSpliterator"), (166, .class_ 391), (0, u "java/lang/StringLatin1$CharsSpliterator")] 3

def k19m0 : Method := { name := "<init>", desc := "()V", sig := { parameters := [], returnType := none }, accessFlags := 0, code := none }
/-- java/lang/StringLatin1 -/
def k19 : Class := { plain "java/lang/StringLatin1" (some 0) with
  accessFlags := 48
  interfaces := #[]
  cf := some (fileOf pool19 14 #[.nestMembers #[390, 221]] #[{ accessFlags := 0, nameIndex := 7, descriptorIndex := 8, attributes := #[] }] 48 4 #[] #[{ accessFlags := 4120, nameIndex := 121, descriptorIndex := 122, attributes := #[] }])
  fields := #[{ name := "$assertionsDisabled", type := .boolean, accessFlags := 4120, slot := 0, constantValue := 0 }]
  methods := #[k19m0]
  instanceTypes := #[]
  staticTypes := #[.boolean]
  resolved := Array.replicate 395 none
  statics := none }

def pool20 : Array CpInfo := pool [(2, .class_ 4), (1, u "java/lang/Object"), (0, u "<init>"), (0, u "()V"), (17, .class_ 26), (1, u "jdk/internal/util/Preconditions"), (28, .class_ 56), (0, u "jdk/internal/util/Preconditions$4"), (57, .class_ 115), (0, u "jdk/internal/util/Preconditions$1"), (7, u "SIOOBE_FORMATTER"), (0, u "Ljava/util/function/BiFunction;"), (0, .class_ 126), (0, u "jdk/internal/util/Preconditions$2"), (3, u "AIOOBE_FORMATTER"), (0, .class_ 132), (0, u "jdk/internal/util/Preconditions$3"), (3, u "IOOBE_FORMATTER")] 57

def k20m0 : Method := { name := "<init>", desc := "()V", sig := { parameters := [], returnType := none }, accessFlags := 1, code := none }
/-- jdk/internal/util/Preconditions -/
def k20 : Class := { plain "jdk/internal/util/Preconditions" (some 0) with
  accessFlags := 33
  interfaces := #[]
  cf := some (fileOf pool20 24 #[.nestMembers #[55, 131, 125, 114]] #[{ accessFlags := 1, nameIndex := 5, descriptorIndex := 6, attributes := #[] }] 33 2 #[] #[{ accessFlags := 25, nameIndex := 123, descriptorIndex := 124, attributes := #[] }, { accessFlags := 25, nameIndex := 130, descriptorIndex := 124, attributes := #[] }, { accessFlags := 25, nameIndex := 136, descriptorIndex := 124, attributes := #[] }])
  fields := #[{ name := "SIOOBE_FORMATTER", type := (.object "java/util/function/BiFunction"), accessFlags := 25, slot := 0, constantValue := 0 }, { name := "AIOOBE_FORMATTER", type := (.object "java/util/function/BiFunction"), accessFlags := 25, slot := 1, constantValue := 0 }, { name := "IOOBE_FORMATTER", type := (.object "java/util/function/BiFunction"), accessFlags := 25, slot := 2, constantValue := 0 }]
  methods := #[k20m0]
  instanceTypes := #[]
  staticTypes := #[(.object "java/util/function/BiFunction"), (.object "java/util/function/BiFunction"), (.object "java/util/function/BiFunction")]
  resolved := Array.replicate 194 none
  statics := some 5 }

def pool21 : Array CpInfo := pool [(9, u "<init>"), (6, .class_ 18), (1, u "java/lang/Object"), (0, u "()V"), (1, .class_ 23), (1, u "jdk/internal/util/ArraysSupport"), (0, u "LOG2_ARRAY_LONG_INDEX_SCALE"), (0, u "I"), (2, u "U"), (0, u "Ljdk/internal/misc/Unsafe;"), (8, u "BIG_ENDIAN"), (0, u "Z"), (8, u "LOG2_BYTE_BIT_SIZE"), (4, u "LOG2_ARRAY_INT_INDEX_SCALE"), (54, u "JLA"), (0, u "Ljdk/internal/access/JavaLangAccess;"), (11, u "LOG2_ARRAY_BOOLEAN_INDEX_SCALE"), (9, u "LOG2_ARRAY_BYTE_INDEX_SCALE"), (5, u "LOG2_ARRAY_CHAR_INDEX_SCALE"), (5, u "LOG2_ARRAY_SHORT_INDEX_SCALE"), (18, u "LOG2_ARRAY_FLOAT_INDEX_SCALE"), (24, u "LOG2_ARRAY_DOUBLE_INDEX_SCALE"), (89, u "T_BOOLEAN"), (2, u "T_CHAR"), (1, u "T_FLOAT"), (1, u "T_DOUBLE"), (1, u "T_BYTE"), (1, u "T_SHORT"), (1, u "T_INT"), (1, u "T_LONG"), (1, u "SOFT_MAX_ARRAY_LENGTH")] 83

def k21m0 : Method := { name := "<init>", desc := "()V", sig := { parameters := [], returnType := none }, accessFlags := 2, code := none }
/-- jdk/internal/util/ArraysSupport -/
def k21 : Class := { plain "jdk/internal/util/ArraysSupport" (some 0) with
  accessFlags := 33
  interfaces := #[]
  cf := some (fileOf pool21 21 #[] #[{ accessFlags := 2, nameIndex := 9, descriptorIndex := 19, attributes := #[] }] 33 16 #[] #[{ accessFlags := 24, nameIndex := 28, descriptorIndex := 29, attributes := #[] }, { accessFlags := 26, nameIndex := 38, descriptorIndex := 39, attributes := #[] }, { accessFlags := 25, nameIndex := 121, descriptorIndex := 25, attributes := #[] }, { accessFlags := 25, nameIndex := 131, descriptorIndex := 25, attributes := #[] }, { accessFlags := 25, nameIndex := 137, descriptorIndex := 25, attributes := #[] }, { accessFlags := 25, nameIndex := 143, descriptorIndex := 25, attributes := #[] }, { accessFlags := 25, nameIndex := 53, descriptorIndex := 25, attributes := #[] }, { accessFlags := 25, nameIndex := 24, descriptorIndex := 25, attributes := #[] }, { accessFlags := 25, nameIndex := 162, descriptorIndex := 25, attributes := #[] }, { accessFlags := 25, nameIndex := 187, descriptorIndex := 25, attributes := #[] }, { accessFlags := 26, nameIndex := 48, descriptorIndex := 25, attributes := #[] }, { accessFlags := 25, nameIndex := 277, descriptorIndex := 25, attributes := #[] }, { accessFlags := 25, nameIndex := 280, descriptorIndex := 25, attributes := #[] }, { accessFlags := 25, nameIndex := 282, descriptorIndex := 25, attributes := #[] }, { accessFlags := 25, nameIndex := 284, descriptorIndex := 25, attributes := #[] }, { accessFlags := 25, nameIndex := 286, descriptorIndex := 25, attributes := #[] }, { accessFlags := 25, nameIndex := 288, descriptorIndex := 25, attributes := #[] }, { accessFlags := 25, nameIndex := 290, descriptorIndex := 25, attributes := #[] }, { accessFlags := 25, nameIndex := 292, descriptorIndex := 25, attributes := #[] }, { accessFlags := 26, nameIndex := 108, descriptorIndex := 109, attributes := #[] }, { accessFlags := 25, nameIndex := 294, descriptorIndex := 25, attributes := #[] }])
  fields := #[{ name := "U", type := (.object "jdk/internal/misc/Unsafe"), accessFlags := 24, slot := 0, constantValue := 0 }, { name := "BIG_ENDIAN", type := .boolean, accessFlags := 26, slot := 1, constantValue := 0 }, { name := "LOG2_ARRAY_BOOLEAN_INDEX_SCALE", type := .int, accessFlags := 25, slot := 2, constantValue := 0 }, { name := "LOG2_ARRAY_BYTE_INDEX_SCALE", type := .int, accessFlags := 25, slot := 3, constantValue := 0 }, { name := "LOG2_ARRAY_CHAR_INDEX_SCALE", type := .int, accessFlags := 25, slot := 4, constantValue := 0 }, { name := "LOG2_ARRAY_SHORT_INDEX_SCALE", type := .int, accessFlags := 25, slot := 5, constantValue := 0 }, { name := "LOG2_ARRAY_INT_INDEX_SCALE", type := .int, accessFlags := 25, slot := 6, constantValue := 0 }, { name := "LOG2_ARRAY_LONG_INDEX_SCALE", type := .int, accessFlags := 25, slot := 7, constantValue := 0 }, { name := "LOG2_ARRAY_FLOAT_INDEX_SCALE", type := .int, accessFlags := 25, slot := 8, constantValue := 0 }, { name := "LOG2_ARRAY_DOUBLE_INDEX_SCALE", type := .int, accessFlags := 25, slot := 9, constantValue := 0 }, { name := "LOG2_BYTE_BIT_SIZE", type := .int, accessFlags := 26, slot := 10, constantValue := 0 }, { name := "T_BOOLEAN", type := .int, accessFlags := 25, slot := 11, constantValue := 0 }, { name := "T_CHAR", type := .int, accessFlags := 25, slot := 12, constantValue := 0 }, { name := "T_FLOAT", type := .int, accessFlags := 25, slot := 13, constantValue := 0 }, { name := "T_DOUBLE", type := .int, accessFlags := 25, slot := 14, constantValue := 0 }, { name := "T_BYTE", type := .int, accessFlags := 25, slot := 15, constantValue := 0 }, { name := "T_SHORT", type := .int, accessFlags := 25, slot := 16, constantValue := 0 }, { name := "T_INT", type := .int, accessFlags := 25, slot := 17, constantValue := 0 }, { name := "T_LONG", type := .int, accessFlags := 25, slot := 18, constantValue := 0 }, { name := "JLA", type := (.object "jdk/internal/access/JavaLangAccess"), accessFlags := 26, slot := 19, constantValue := 0 }, { name := "SOFT_MAX_ARRAY_LENGTH", type := .int, accessFlags := 25, slot := 20, constantValue := 0 }]
  methods := #[k21m0]
  instanceTypes := #[]
  staticTypes := #[(.object "jdk/internal/misc/Unsafe"), .boolean, .int, .int, .int, .int, .int, .int, .int, .int, .int, .int, .int, .int, .int, .int, .int, .int, .int, (.object "jdk/internal/access/JavaLangAccess"), .int]
  resolved := Array.replicate 378 none
  statics := none }

def pool22 : Array CpInfo := pool [(2, .class_ 4), (1, u "java/lang/Object"), (0, u "<init>"), (0, u "()V"), (12, .class_ 20), (0, u "java/util/Collections"), (63, u "r"), (0, u "Ljava/util/Random;"), (80, .class_ 167), (0, u "java/util/Collections$UnmodifiableCollection"), (6, .class_ 175), (0, u "java/util/Collections$UnmodifiableSequencedCollection"), (6, .class_ 183), (0, u "java/util/Collections$UnmodifiableSet"), (6, .class_ 191), (0, u "java/util/Collections$UnmodifiableSequencedSet"), (6, .class_ 199), (0, u "java/util/Collections$UnmodifiableSortedSet"), (6, .class_ 207), (0, u "java/util/Collections$UnmodifiableNavigableSet"), (4, .class_ 213), (0, u "java/util/Collections$UnmodifiableList"), (1, .class_ 216), (0, u "java/util/Collections$UnmodifiableRandomAccessList"), (6, .class_ 224), (0, u "java/util/Collections$UnmodifiableMap"), (6, .class_ 232), (0, u "java/util/Collections$UnmodifiableSequencedMap"), (4, .class_ 238), (0, u "java/util/Collections$UnmodifiableSortedMap"), (6, .class_ 246), (0, u "java/util/Collections$UnmodifiableNavigableMap"), (3, .class_ 251), (0, u "java/util/Collections$SynchronizedCollection"), (4, .class_ 257), (0, u "java/util/Collections$SynchronizedSet"), (4, .class_ 263), (0, u "java/util/Collections$SynchronizedSortedSet"), (1, .class_ 266), (0, u "java/util/Collections$SynchronizedNavigableSet"), (1, .class_ 269), (0, u "java/util/Collections$SynchronizedRandomAccessList"), (1, .class_ 272), (0, u "java/util/Collections$SynchronizedList"), (5, .class_ 279), (0, u "java/util/Collections$SynchronizedMap"), (1, .class_ 282), (0, u "java/util/Collections$SynchronizedSortedMap"), (1, .class_ 285), (0, u "java/util/Collections$SynchronizedNavigableMap"), (1, .class_ 288), (0, u "java/util/Collections$CheckedCollection"), (11, .class_ 301), (0, u "java/util/Collections$CheckedQueue"), (3, .class_ 306), (0, u "java/util/Collections$CheckedSet"), (3, .class_ 311), (0, u "java/util/Collections$CheckedSortedSet"), (3, .class_ 316), (0, u "java/util/Collections$CheckedNavigableSet"), (3, .class_ 321), (0, u "java/util/Collections$CheckedRandomAccessList"), (3, .class_ 326), (0, u "java/util/Collections$CheckedList"), (1, .class_ 329), (0, u "java/util/Collections$CheckedMap"), (3, .class_ 334), (0, u "java/util/Collections$CheckedSortedMap"), (3, .class_ 339), (0, u "java/util/Collections$CheckedNavigableMap"), (4, .class_ 346), (1, u "java/util/Collections$EmptyIterator"), (3, .class_ 352), (1, u "java/util/Collections$EmptyListIterator"), (2, .class_ 357), (1, u "java/util/Collections$EmptyEnumeration"), (4, u "EMPTY_SET"), (0, u "Ljava/util/Set;"), (6, u "EMPTY_LIST"), (0, u "Ljava/util/List;"), (2, u "EMPTY_MAP"), (0, u "Ljava/util/Map;"), (4, .class_ 381), (0, u "java/util/Collections$SingletonSet"), (2, .class_ 385), (0, u "java/util/Collections$1"), (1, .class_ 388), (0, u "java/util/Collections$2"), (1, .class_ 391), (0, u "java/util/Collections$SingletonList"), (1, .class_ 394), (0, u "java/util/Collections$SingletonMap"), (22, .class_ 418), (0, u "java/util/Collections$CopiesList"), (4, .class_ 425), (1, u "java/util/Collections$ReverseComparator"), (8, .class_ 435), (0, u "java/util/Collections$ReverseComparator2"), (6, .class_ 443), (0, u "java/util/Collections$3"), (25, .class_ 470), (0, u "java/util/Collections$SetFromMap"), (2, .class_ 474), (0, u "java/util/Collections$SequencedSetFromMap"), (3, .class_ 479), (0, u "java/util/Collections$AsLIFOQueue"), (11, .class_ 492), (0, u "java/util/Collections$EmptySet"), (1, .class_ 495), (0, u "java/util/Collections$EmptyList"), (1, .class_ 498), (0, u "java/util/Collections$EmptyMap"), (1, u "BINARYSEARCH_THRESHOLD"), (0, u "I"), (2, u "REVERSE_THRESHOLD"), (1, u "SHUFFLE_THRESHOLD"), (1, u "FILL_THRESHOLD"), (1, u "ROTATE_THRESHOLD"), (1, u "COPY_THRESHOLD"), (1, u "REPLACEALL_THRESHOLD"), (1, u "INDEXOFSUBLIST_THRESHOLD"), (333, .class_ 851), (0, u "java/util/Collections$CheckedMap$CheckedEntrySet"), (0, .class_ 853), (0, u "java/util/Collections$CheckedMap$CheckedEntrySet$CheckedEntry"), (0, .class_ 855), (0, u "java/util/Collections$CheckedMap$CheckedEntrySet$1"), (0, .class_ 857), (0, u "java/util/Collections$CheckedList$1"), (0, .class_ 859), (0, u "java/util/Collections$CheckedCollection$1"), (0, .class_ 861), (0, u "java/util/Collections$UnmodifiableNavigableMap$EmptyNavigableMap"), (0, .class_ 863), (0, u "java/util/Collections$UnmodifiableMap$UnmodifiableEntrySet"), (0, .class_ 865), (0, u "java/util/Collections$UnmodifiableMap$UnmodifiableEntrySet$UnmodifiableEntry"), (0, .class_ 867), (0, u "java/util/Collections$UnmodifiableMap$UnmodifiableEntrySet$UnmodifiableEntrySetSpliterator"), (0, .class_ 869), (0, u "java/util/Collections$UnmodifiableMap$UnmodifiableEntrySet$1"), (0, .class_ 871), (0, u "java/util/Collections$UnmodifiableList$1"), (0, .class_ 873), (0, u "java/util/Collections$UnmodifiableNavigableSet$EmptyNavigableSet"), (0, .class_ 875), (0, u "java/util/Collections$UnmodifiableCollection$1")] 57

def k22m0 : Method := { name := "<init>", desc := "()V", sig := { parameters := [], returnType := none }, accessFlags := 2, code := none }
/-- java/util/Collections -/
def k22 : Class := { plain "java/util/Collections" (some 0) with
  accessFlags := 33
  interfaces := #[]
  cf := some (fileOf pool22 19 #[.nestMembers #[478, 473, 469, 434, 423, 417, 393, 390, 380, 497, 494, 491, 355, 350, 344, 338, 333, 328, 850, 852, 854, 320, 325, 856, 315, 310, 305, 300, 287, 858, 284, 281, 278, 268, 271, 265, 262, 256, 250, 245, 860, 237, 231, 223, 862, 864, 866, 868, 215, 212, 870, 206, 872, 198, 190, 182, 174, 166, 874, 442, 387, 384]] #[{ accessFlags := 2, nameIndex := 5, descriptorIndex := 6, attributes := #[] }] 33 2 #[] #[{ accessFlags := 26, nameIndex := 500, descriptorIndex := 501, attributes := #[] }, { accessFlags := 26, nameIndex := 504, descriptorIndex := 501, attributes := #[] }, { accessFlags := 26, nameIndex := 506, descriptorIndex := 501, attributes := #[] }, { accessFlags := 26, nameIndex := 508, descriptorIndex := 501, attributes := #[] }, { accessFlags := 26, nameIndex := 510, descriptorIndex := 501, attributes := #[] }, { accessFlags := 26, nameIndex := 512, descriptorIndex := 501, attributes := #[] }, { accessFlags := 26, nameIndex := 514, descriptorIndex := 501, attributes := #[] }, { accessFlags := 26, nameIndex := 516, descriptorIndex := 501, attributes := #[] }, { accessFlags := 10, nameIndex := 84, descriptorIndex := 85, attributes := #[] }, { accessFlags := 25, nameIndex := 362, descriptorIndex := 363, attributes := #[] }, { accessFlags := 25, nameIndex := 370, descriptorIndex := 371, attributes := #[] }, { accessFlags := 25, nameIndex := 374, descriptorIndex := 375, attributes := #[] }])
  fields := #[{ name := "BINARYSEARCH_THRESHOLD", type := .int, accessFlags := 26, slot := 0, constantValue := 0 }, { name := "REVERSE_THRESHOLD", type := .int, accessFlags := 26, slot := 1, constantValue := 0 }, { name := "SHUFFLE_THRESHOLD", type := .int, accessFlags := 26, slot := 2, constantValue := 0 }, { name := "FILL_THRESHOLD", type := .int, accessFlags := 26, slot := 3, constantValue := 0 }, { name := "ROTATE_THRESHOLD", type := .int, accessFlags := 26, slot := 4, constantValue := 0 }, { name := "COPY_THRESHOLD", type := .int, accessFlags := 26, slot := 5, constantValue := 0 }, { name := "REPLACEALL_THRESHOLD", type := .int, accessFlags := 26, slot := 6, constantValue := 0 }, { name := "INDEXOFSUBLIST_THRESHOLD", type := .int, accessFlags := 26, slot := 7, constantValue := 0 }, { name := "r", type := (.object "java/util/Random"), accessFlags := 10, slot := 8, constantValue := 0 }, { name := "EMPTY_SET", type := (.object "java/util/Set"), accessFlags := 25, slot := 9, constantValue := 0 }, { name := "EMPTY_LIST", type := (.object "java/util/List"), accessFlags := 25, slot := 10, constantValue := 0 }, { name := "EMPTY_MAP", type := (.object "java/util/Map"), accessFlags := 25, slot := 11, constantValue := 0 }]
  methods := #[k22m0]
  instanceTypes := #[]
  staticTypes := #[.int, .int, .int, .int, .int, .int, .int, .int, (.object "java/util/Random"), (.object "java/util/Set"), (.object "java/util/List"), (.object "java/util/Map")]
  resolved := Array.replicate 933 none
  statics := some 6 }

def pool23 : Array CpInfo := pool [(8, .class_ 10), (1, u "java/lang/Iterable"), (24, .class_ 36), (0, u "java/lang/Object")] 25

/-- java/lang/Iterable -/
def k23 : Class := { plain "java/lang/Iterable" (some 0) with
  accessFlags := 1537
  interfaces := #[]
  cf := some (fileOf pool23 8 #[] #[] 1537 35 #[] #[])
  fields := #[]
  methods := #[]
  instanceTypes := #[]
  staticTypes := #[]
  resolved := Array.replicate 62 none
  statics := none }

def pool24 : Array CpInfo := pool [(10, .class_ 12), (1, u "java/util/Collection"), (47, .class_ 61), (0, u "java/lang/Object"), (0, .class_ 63), (0, u "java/lang/Iterable")] 51

/-- java/util/Collection -/
def k24 : Class := { plain "java/util/Collection" (some 0) with
  accessFlags := 1537
  interfaces := #[23]
  cf := some (fileOf pool24 10 #[] #[] 1537 60 #[62] #[])
  fields := #[]
  methods := #[]
  instanceTypes := #[]
  staticTypes := #[]
  resolved := Array.replicate 115 none
  statics := none }

def pool25 : Array CpInfo := pool [(2, .class_ 4), (1, u "java/lang/Object"), (0, u "<init>"), (0, u "()V"), (1, .class_ 10), (1, u "java/util/AbstractCollection"), (66, .class_ 78), (0, u "java/util/Collection")] 81

def k25m0 : Method := { name := "<init>", desc := "()V", sig := { parameters := [], returnType := none }, accessFlags := 4, code := none }
/-- java/util/AbstractCollection -/
def k25 : Class := { plain "java/util/AbstractCollection" (some 0) with
  accessFlags := 1057
  interfaces := #[24]
  cf := some (fileOf pool25 8 #[] #[{ accessFlags := 4, nameIndex := 5, descriptorIndex := 6, attributes := #[] }] 1057 2 #[77] #[])
  fields := #[]
  methods := #[k25m0]
  instanceTypes := #[]
  staticTypes := #[]
  resolved := Array.replicate 160 none
  statics := none }

def pool26 : Array CpInfo := pool [(8, .class_ 10), (1, u "java/util/SequencedCollection"), (15, .class_ 27), (0, u "java/lang/Object"), (0, .class_ 29), (0, u "java/util/Collection")] 27

/-- java/util/SequencedCollection -/
def k26 : Class := { plain "java/util/SequencedCollection" (some 0) with
  accessFlags := 1537
  interfaces := #[24]
  cf := some (fileOf pool26 8 #[] #[] 1537 26 #[28] #[])
  fields := #[]
  methods := #[]
  instanceTypes := #[]
  staticTypes := #[]
  resolved := Array.replicate 57 none
  statics := none }

def pool27 : Array CpInfo := pool [(8, .class_ 10), (1, u "java/util/List"), (92, .class_ 104), (0, u "java/lang/Object"), (15, .class_ 121), (0, u "java/util/SequencedCollection")] 129

/-- java/util/List -/
def k27 : Class := { plain "java/util/List" (some 0) with
  accessFlags := 1537
  interfaces := #[26]
  cf := some (fileOf pool27 8 #[] #[] 1537 103 #[120] #[])
  fields := #[]
  methods := #[]
  instanceTypes := #[]
  staticTypes := #[]
  resolved := Array.replicate 251 none
  statics := none }

def pool28 : Array CpInfo := pool [(2, .class_ 4), (1, u "java/util/AbstractCollection"), (0, u "<init>"), (0, u "()V"), (1, .class_ 10), (1, u "java/util/AbstractList"), (0, u "modCount"), (0, u "I"), (64, .class_ 78), (0, u "java/util/AbstractList$Itr"), (3, .class_ 83), (0, u "java/util/AbstractList$ListItr"), (9, .class_ 94), (0, u "java/util/AbstractList$RandomAccessSubList"), (3, .class_ 99), (0, u "java/util/AbstractList$SubList"), (33, .class_ 134), (0, u "java/util/List"), (73, .class_ 209), (0, u "java/util/AbstractList$SubList$1"), (0, .class_ 211), (0, u "java/util/AbstractList$RandomAccessSpliterator")] 6

def k28m0 : Method := { name := "<init>", desc := "()V", sig := { parameters := [], returnType := none }, accessFlags := 4, code := none }
/-- java/util/AbstractList -/
def k28 : Class := { plain "java/util/AbstractList" (some 25) with
  accessFlags := 1057
  interfaces := #[27]
  cf := some (fileOf pool28 8 #[.nestMembers #[93, 98, 208, 210, 82, 77]] #[{ accessFlags := 4, nameIndex := 5, descriptorIndex := 6, attributes := #[] }] 1057 2 #[133] #[{ accessFlags := 132, nameIndex := 11, descriptorIndex := 12, attributes := #[] }])
  fields := #[{ name := "modCount", type := .int, accessFlags := 132, slot := 0, constantValue := 0 }]
  methods := #[k28m0]
  instanceTypes := #[.int]
  staticTypes := #[]
  resolved := Array.replicate 218 none
  statics := none }

def pool29 : Array CpInfo := pool [(1, .class_ 2), (0, u "java/util/RandomAccess"), (0, .class_ 4), (0, u "java/lang/Object")] 2

/-- java/util/RandomAccess -/
def k29 : Class := { plain "java/util/RandomAccess" (some 0) with
  accessFlags := 1537
  interfaces := #[]
  cf := some (fileOf pool29 1 #[] #[] 1537 3 #[] #[])
  fields := #[]
  methods := #[]
  instanceTypes := #[]
  staticTypes := #[]
  resolved := Array.replicate 7 none
  statics := none }

def pool30 : Array CpInfo := pool [(2, .class_ 4), (1, u "java/util/AbstractList"), (0, u "<init>"), (0, u "()V"), (1, .class_ 10), (1, u "java/util/Collections"), (54, .class_ 66), (0, u "java/util/Collections$EmptyList"), (0, .class_ 68), (0, u "java/util/RandomAccess"), (0, .class_ 70), (0, u "java/io/Serializable"), (0, u "serialVersionUID"), (0, u "J")] 77

def k30m0 : Method := { name := "<init>", desc := "()V", sig := { parameters := [], returnType := none }, accessFlags := 2, code := none }
/-- java/util/Collections$EmptyList -/
def k30 : Class := { plain "java/util/Collections$EmptyList" (some 28) with
  accessFlags := 32
  interfaces := #[29, 2]
  cf := some (fileOf pool30 65 #[.nestHost 8] #[{ accessFlags := 2, nameIndex := 5, descriptorIndex := 6, attributes := #[] }] 32 2 #[67, 69] #[{ accessFlags := 26, nameIndex := 71, descriptorIndex := 72, attributes := #[] }])
  fields := #[{ name := "serialVersionUID", type := .long, accessFlags := 26, slot := 0, constantValue := 0 }]
  methods := #[k30m0]
  instanceTypes := #[.int]
  staticTypes := #[.long]
  resolved := Array.replicate 150 none
  statics := none }

def pool31 : Array CpInfo := pool [(2, .class_ 4), (1, u "java/lang/StackTraceElement"), (0, u "<init>"), (2, .class_ 10), (1, u "java/lang/Object"), (0, u "()V"), (2, u "format"), (0, u "B"), (2, u "classLoaderName"), (0, u "Ljava/lang/String;"), (2, u "moduleName"), (2, u "moduleVersion"), (12, u "declaringClass"), (4, u "methodName"), (2, u "fileName"), (2, u "lineNumber"), (0, u "I"), (65, u "declaringClassObject"), (0, u "Ljava/lang/Class;"), (33, .class_ 153), (1, u "java/lang/StackTraceElement$HashedModules"), (17, .class_ 172), (0, u "java/io/Serializable"), (0, u "NATIVE_METHOD"), (1, u "UNKNOWN_SOURCE"), (2, u "BUILTIN_CLASS_LOADER"), (1, u "JDK_NON_UPGRADEABLE_MODULE"), (1, u "serialVersionUID"), (0, u "J")] 51

def k31m0 : Method := { name := "<init>", desc := "()V", sig := { parameters := [], returnType := none }, accessFlags := 2, code := none }
/-- java/lang/StackTraceElement -/
def k31 : Class := { plain "java/lang/StackTraceElement" (some 0) with
  accessFlags := 49
  interfaces := #[2]
  cf := some (fileOf pool31 2 #[.nestMembers #[151]] #[{ accessFlags := 2, nameIndex := 5, descriptorIndex := 11, attributes := #[] }] 49 8 #[171] #[{ accessFlags := 26, nameIndex := 173, descriptorIndex := 19, attributes := #[] }, { accessFlags := 26, nameIndex := 175, descriptorIndex := 19, attributes := #[] }, { accessFlags := 130, nameIndex := 116, descriptorIndex := 117, attributes := #[] }, { accessFlags := 2, nameIndex := 18, descriptorIndex := 19, attributes := #[] }, { accessFlags := 2, nameIndex := 22, descriptorIndex := 19, attributes := #[] }, { accessFlags := 2, nameIndex := 25, descriptorIndex := 19, attributes := #[] }, { accessFlags := 2, nameIndex := 38, descriptorIndex := 19, attributes := #[] }, { accessFlags := 2, nameIndex := 43, descriptorIndex := 19, attributes := #[] }, { accessFlags := 2, nameIndex := 46, descriptorIndex := 19, attributes := #[] }, { accessFlags := 2, nameIndex := 49, descriptorIndex := 50, attributes := #[] }, { accessFlags := 2, nameIndex := 14, descriptorIndex := 15, attributes := #[] }, { accessFlags := 26, nameIndex := 178, descriptorIndex := 15, attributes := #[] }, { accessFlags := 26, nameIndex := 180, descriptorIndex := 15, attributes := #[] }, { accessFlags := 26, nameIndex := 182, descriptorIndex := 183, attributes := #[] }])
  fields := #[{ name := "NATIVE_METHOD", type := (.object "java/lang/String"), accessFlags := 26, slot := 0, constantValue := 0 }, { name := "UNKNOWN_SOURCE", type := (.object "java/lang/String"), accessFlags := 26, slot := 1, constantValue := 0 }, { name := "declaringClassObject", type := (.object "java/lang/Class"), accessFlags := 130, slot := 0, constantValue := 0 }, { name := "classLoaderName", type := (.object "java/lang/String"), accessFlags := 2, slot := 1, constantValue := 0 }, { name := "moduleName", type := (.object "java/lang/String"), accessFlags := 2, slot := 2, constantValue := 0 }, { name := "moduleVersion", type := (.object "java/lang/String"), accessFlags := 2, slot := 3, constantValue := 0 }, { name := "declaringClass", type := (.object "java/lang/String"), accessFlags := 2, slot := 4, constantValue := 0 }, { name := "methodName", type := (.object "java/lang/String"), accessFlags := 2, slot := 5, constantValue := 0 }, { name := "fileName", type := (.object "java/lang/String"), accessFlags := 2, slot := 6, constantValue := 0 }, { name := "lineNumber", type := .int, accessFlags := 2, slot := 7, constantValue := 0 }, { name := "format", type := .byte, accessFlags := 2, slot := 8, constantValue := 0 }, { name := "BUILTIN_CLASS_LOADER", type := .byte, accessFlags := 26, slot := 2, constantValue := 0 }, { name := "JDK_NON_UPGRADEABLE_MODULE", type := .byte, accessFlags := 26, slot := 3, constantValue := 0 }, { name := "serialVersionUID", type := .long, accessFlags := 26, slot := 4, constantValue := 0 }]
  methods := #[k31m0]
  instanceTypes := #[(.object "java/lang/Class"), (.object "java/lang/String"), (.object "java/lang/String"), (.object "java/lang/String"), (.object "java/lang/String"), (.object "java/lang/String"), (.object "java/lang/String"), .int, .byte]
  staticTypes := #[(.object "java/lang/String"), (.object "java/lang/String"), .byte, .byte, .long]
  resolved := Array.replicate 235 none
  statics := none }

def pool32 : Array CpInfo := pool [(1, u "java/lang/Cloneable"), (0, .class_ 1), (0, u "java/lang/Object"), (0, .class_ 3)] 3

/-- java/lang/Cloneable -/
def k32 : Class := { plain "java/lang/Cloneable" (some 0) with
  accessFlags := 1537
  interfaces := #[]
  cf := some (fileOf pool32 2 #[] #[] 1537 4 #[] #[])
  fields := #[]
  methods := #[]
  instanceTypes := #[]
  staticTypes := #[]
  resolved := Array.replicate 8 none
  statics := none }

/-- the primitive byte -/
def k33 : Class := { plain "byte" none with kind := .primitive 'B', accessFlags := 0x411 }
/-- [B -/
def k34 : Class := { plain "[B" (some 0) with kind := .array 33 .byte, interfaces := #[32, 2], accessFlags := 1041 }

/-- the primitive char -/
def k35 : Class := { plain "char" none with kind := .primitive 'C', accessFlags := 0x411 }
/-- [C -/
def k36 : Class := { plain "[C" (some 0) with kind := .array 35 .char, interfaces := #[32, 2], accessFlags := 1041 }

/-- the primitive int -/
def k37 : Class := { plain "int" none with kind := .primitive 'I', accessFlags := 0x411 }
/-- [I -/
def k38 : Class := { plain "[I" (some 0) with kind := .array 37 .int, interfaces := #[32, 2], accessFlags := 1041 }

/-- [Ljava/lang/Integer; -/
def k39 : Class := { plain "[Ljava/lang/Integer;" (some 0) with kind := .array 16 (.object "java/lang/Integer"), interfaces := #[32, 2], accessFlags := 1041 }

/-- [Ljava/lang/Object; -/
def k40 : Class := { plain "[Ljava/lang/Object;" (some 0) with kind := .array 0 (.object "java/lang/Object"), interfaces := #[32, 2], accessFlags := 1041 }

/-- [Ljava/lang/StackTraceElement; -/
def k41 : Class := { plain "[Ljava/lang/StackTraceElement;" (some 0) with kind := .array 31 (.object "java/lang/StackTraceElement"), interfaces := #[32, 2], accessFlags := 1041 }

/-- [Ljava/lang/Throwable; -/
def k42 : Class := { plain "[Ljava/lang/Throwable;" (some 0) with kind := .array 9 (.object "java/lang/Throwable"), interfaces := #[32, 2], accessFlags := 1041 }

def heap : Heap := #[{ cls := 7, slots := #[.long 0, .int 1, .null, .int 0, .null, .int 0, .int 0], vm := .statics 7 },
  { cls := 9, slots := #[.long 0, .ref 16, .ref 17, .null, .null, .null, .null, .ref 18, .int 1], vm := .statics 9 },
  { cls := 14, slots := #[.ref 7, .ref 8, .ref 9, .ref 10, .ref 11, .ref 12, .ref 13, .ref 14, .ref 15, .null], vm := .statics 14 },
  { cls := 17, slots := #[.int 0, .int 127, .ref 19, .null, .int 0], vm := .statics 17 },
  { cls := 18, slots := #[.ref 20], vm := .statics 18 },
  { cls := 20, slots := #[.null, .null, .null], vm := .statics 20 },
  { cls := 22, slots := #[.int 0, .int 0, .int 0, .int 0, .int 0, .int 0, .int 0, .int 0, .null, .null, .ref 17, .null], vm := .statics 22 },
  { cls := 14, slots := #[.null, .int 0, .int 0, .int 0], vm := .none },
  { cls := 14, slots := #[.null, .int 1, .int 0, .int 0], vm := .none },
  { cls := 14, slots := #[.null, .int 2, .int 0, .int 0], vm := .none },
  { cls := 14, slots := #[.null, .int 3, .int 0, .int 0], vm := .none },
  { cls := 14, slots := #[.null, .int 4, .int 0, .int 0], vm := .none },
  { cls := 14, slots := #[.null, .int 5, .int 0, .int 0], vm := .none },
  { cls := 14, slots := #[.null, .int 6, .int 0, .int 0], vm := .none },
  { cls := 14, slots := #[.null, .int 7, .int 0, .int 0], vm := .none },
  { cls := 14, slots := #[.null, .int 8, .int 0, .int 0], vm := .none },
  { cls := 41, slots := #[], vm := .none },
  { cls := 30, slots := #[.int 0], vm := .none },
  { cls := 42, slots := #[], vm := .none },
  { cls := 39, slots := (Array.range 256).map fun j => Value.ref (21 + j), vm := .none },
  { cls := 18, slots := #[.int 0, .int 0], vm := .none }] ++ ((Array.range 256).map fun j => ({ cls := 16, slots := #[.int (Int32.ofNat j - 128)], vm := .none } : Cell))
def classes : Array Class := #[k0, k1, k2, k3, k4, k5, k6, k7, k8, k9, k10, k11, k12, k13, k14, k15, k16, k17, k18, k19, k20, k21, k22, k23, k24, k25, k26, k27, k28, k29, k30, k31, k32, k33, k34, k35, k36, k37, k38, k39, k40, k41, k42]
def interned : List (Array UInt16 × Addr) := []
def slotsUsed : Nat := 598
def theMethod : MethodId := ⟨1, 2⟩
def args0 : Array Value := #[.int 5, .int 5, .int 5, .int 5]
def aboutOver (below : List Frame) : State where
  vm := { classes := classes, interned := interned.toArray }
  heap := heap
  slotsUsed := slotsUsed
  threads := #[{ frames := .invoking theMethod args0 :: below }]
def below0 : List Frame := [.native { method := ⟨0, 0⟩, args := #[] }]
def about1 : State := aboutOver below0
def p0 : Program := .bare "" "" ""
def e0 : Env := launch0.env 0 0 0
theorem w_frames : about1.frames = Frame.invoking theMethod args0 :: below0 := rfl
set_option maxRecDepth 65536 in
theorem w_args : argsFit about1.vm theMethod args0 = true := by decide +kernel
set_option maxRecDepth 65536 in
theorem w_heap : heapFits about1 = true := by decide +kernel
set_option maxRecDepth 65536 in
theorem w_runnable : about1.curStatus? = some .runnable := by decide +kernel
set_option maxRecDepth 65536 in
theorem w_alone : about1.alone = true := by decide +kernel
set_option maxRecDepth 65536 in
theorem w_named : about1.methodNamed? x = some theMethod := by decide +kernel
set_option maxRecDepth 65536 in
theorem w_hears : about1.hears theMethod below0 = true := by decide +kernel
set_option maxRecDepth 65536 in
theorem w_ripe : about1.ripe theMethod args0 below0 = true := by decide +kernel
theorem w_running : about1.status = .running := rfl
set_option maxRecDepth 65536 in
theorem w_room : about1.hasRoom e0.platform room_1 = true :=
  launch0.hasRoom_least _ room_1 (by decide +kernel) (by decide +kernel) (by decide +kernel) (by decide +kernel) (by decide +kernel) (by decide +kernel)
theorem allAtoms_all (ts : List Jvm.Cond) (a : Array Jvm.Value) (st : Jvm.State) : (allAtoms ts).before a st = ts.all (fun c => c.before a st) := by
  induction ts with
  | nil => rfl
  | cons c t ih =>
    show (Jvm.Cond.and c (allAtoms t)).before a st = _
    rw [Jvm.Cond.before_and, ih, List.all_cons]
def words1 : List Jvm.Cond := Jvm.Cond.code x code maxLocals ret :: tables_1
/-- a 'code' word, met by the world's own term for the bytes: nothing is compared byte by byte -/
theorem code_word {y : MethodName} {bytes : ByteArray} {mx : Nat} {rt : Option FieldType} {a : Array Value} {s : State} {m : MethodId} {meth : Method} {c : Code} (h1 : s.methodNamed? y = some m) (h2 : s.vm.method? m = some meth) (h3 : meth.code = some c) (h4 : c.code = bytes)
    (h5 : (c.maxLocals == mx && c.exceptionTable.isEmpty && decide (c.maxStack ≤ mostOperands) && decide (meth.sig.returnType = rt) && !meth.locks && decide (parseMethodDescriptor y.desc = some meth.sig)) = true) : (Jvm.Cond.code y bytes mx rt).before a s = true := by
  simp only [Bool.and_eq_true, beq_iff_eq, Bool.not_eq_true', decide_eq_true_eq] at h5
  obtain ⟨⟨⟨⟨⟨g1, g2⟩, g3⟩, g4⟩, g5⟩, g6⟩ := h5
  simp [Cond.before, Cond.holds, Cond.value, h1, h2, h3, h4, g1, g2, g3, g4, g5, g6]
def isCode : Jvm.Cond → Bool
  | .code _ _ _ _ => true
  | _ => false
theorem all_split {L : List Jvm.Cond} {P : Jvm.Cond → Bool} (h1 : L.all (fun c => isCode c || P c) = true) (h2 : ∀ c ∈ L.filter isCode, P c = true) : L.all P = true := by
  refine List.all_eq_true.mpr fun c hc => ?_
  have h := List.all_eq_true.mp h1 c hc
  rcases Bool.eq_false_or_eq_true (isCode c) with hi | hi
  · exact h2 c (List.mem_filter.mpr ⟨hc, hi⟩)
  · simpa [hi] using h
set_option maxRecDepth 65536 in
theorem w_c0 : (Jvm.Cond.code x code maxLocals ret).before args0 about1 = true := code_word (m := ⟨1, 2⟩) (meth := k1m2) (c := k1c2) (by decide +kernel) rfl rfl rfl (by decide +kernel)
set_option maxRecDepth 65536 in
theorem w_c1 : (Jvm.Cond.code ({ cls := "java/lang/String", name := "<init>", desc := "([C)V" } : Jvm.MethodName) jdk_42_method_3_code (2 : Nat) (Option.none : Option Jvm.ClassFile.FieldType)).before args0 about1 = true := code_word (m := ⟨7, 1⟩) (meth := k7m1) (c := k7c1) (by decide +kernel) rfl rfl rfl (by decide +kernel)
set_option maxRecDepth 65536 in
theorem w_c2 : (Jvm.Cond.code ({ cls := "java/lang/String", name := "<init>", desc := "([CIILjava/lang/Void;)V" } : Jvm.MethodName) jdk_42_method_149_code (6 : Nat) (Option.none : Option Jvm.ClassFile.FieldType)).before args0 about1 = true := code_word (m := ⟨7, 2⟩) (meth := k7m2) (c := k7c2) (by decide +kernel) rfl rfl rfl (by decide +kernel)
set_option maxRecDepth 65536 in
theorem w_c3 : (Jvm.Cond.code ({ cls := "java/lang/Object", name := "<init>", desc := "()V" } : Jvm.MethodName) object_method_1_code (1 : Nat) (Option.none : Option Jvm.ClassFile.FieldType)).before args0 about1 = true := code_word (m := ⟨0, 0⟩) (meth := k0m0) (c := k0c0) (by decide +kernel) rfl rfl rfl (by decide +kernel)
set_option maxRecDepth 65536 in
theorem w_c4 : (Jvm.Cond.code ({ cls := "java/lang/StringUTF16", name := "compress", desc := "([CII)[B" } : Jvm.MethodName) jdk_52_method_16_code (6 : Nat) (Option.some (Jvm.ClassFile.FieldType.array Jvm.ClassFile.FieldType.byte))).before args0 about1 = true := code_word (m := ⟨8, 2⟩) (meth := k8m2) (c := k8c2) (by decide +kernel) rfl rfl rfl (by decide +kernel)
set_option maxRecDepth 65536 in
theorem w_c5 : (Jvm.Cond.code ({ cls := "java/lang/StringUTF16", name := "compress", desc := "([CI[BII)I" } : Jvm.MethodName) jdk_52_method_21_code (7 : Nat) (Option.some Jvm.ClassFile.FieldType.int)).before args0 about1 = true := code_word (m := ⟨8, 3⟩) (meth := k8m3) (c := k8c3) (by decide +kernel) rfl rfl rfl (by decide +kernel)
set_option maxRecDepth 65536 in
theorem w_c6 : (Jvm.Cond.code ({ cls := "java/lang/StringUTF16", name := "coderFromArrayLen", desc := "([BI)B" } : Jvm.MethodName) jdk_52_method_15_code (2 : Nat) (Option.some Jvm.ClassFile.FieldType.byte)).before args0 about1 = true := code_word (m := ⟨8, 1⟩) (meth := k8m1) (c := k8c1) (by decide +kernel) rfl rfl rfl (by decide +kernel)
set_option maxRecDepth 65536 in
theorem w_c7 : (Jvm.Cond.code ({ cls := "com/example/hamal/hamal/api/ApiExceptionRetryAfterSecondsPinLaw", name := "pick", desc := "(I)Lcom/example/hamal/hamal/api/ErrorCode;" } : Jvm.MethodName) method_2_code (2 : Nat) (Option.some (Jvm.ClassFile.FieldType.object "com/example/hamal/hamal/api/ErrorCode"))).before args0 about1 = true := code_word (m := ⟨1, 1⟩) (meth := k1m1) (c := k1c1) (by decide +kernel) rfl rfl rfl (by decide +kernel)
set_option maxRecDepth 65536 in
theorem w_c8 : (Jvm.Cond.code ({ cls := "com/example/hamal/hamal/api/ApiException", name := "<init>", desc := "(Lcom/example/hamal/hamal/api/ErrorCode;Ljava/lang/String;)V" } : Jvm.MethodName) prog_5_method_1_code (3 : Nat) (Option.none : Option Jvm.ClassFile.FieldType)).before args0 about1 = true := code_word (m := ⟨12, 0⟩) (meth := k12m0) (c := k12c0) (by decide +kernel) rfl rfl rfl (by decide +kernel)
set_option maxRecDepth 65536 in
theorem w_c9 : (Jvm.Cond.code ({ cls := "com/example/hamal/hamal/api/ApiException", name := "<init>", desc := "(Lcom/example/hamal/hamal/api/ErrorCode;Ljava/lang/String;Ljava/lang/Integer;)V" } : Jvm.MethodName) prog_5_method_2_code (4 : Nat) (Option.none : Option Jvm.ClassFile.FieldType)).before args0 about1 = true := code_word (m := ⟨12, 1⟩) (meth := k12m1) (c := k12c1) (by decide +kernel) rfl rfl rfl (by decide +kernel)
set_option maxRecDepth 65536 in
theorem w_c10 : (Jvm.Cond.code ({ cls := "java/lang/RuntimeException", name := "<init>", desc := "(Ljava/lang/String;)V" } : Jvm.MethodName) jdk_58_method_2_code (2 : Nat) (Option.none : Option Jvm.ClassFile.FieldType)).before args0 about1 = true := code_word (m := ⟨11, 1⟩) (meth := k11m1) (c := k11c1) (by decide +kernel) rfl rfl rfl (by decide +kernel)
set_option maxRecDepth 65536 in
theorem w_c11 : (Jvm.Cond.code ({ cls := "java/lang/Exception", name := "<init>", desc := "(Ljava/lang/String;)V" } : Jvm.MethodName) jdk_59_method_2_code (2 : Nat) (Option.none : Option Jvm.ClassFile.FieldType)).before args0 about1 = true := code_word (m := ⟨10, 1⟩) (meth := k10m1) (c := k10c1) (by decide +kernel) rfl rfl rfl (by decide +kernel)
set_option maxRecDepth 65536 in
theorem w_c12 : (Jvm.Cond.code ({ cls := "java/lang/Throwable", name := "<init>", desc := "(Ljava/lang/String;)V" } : Jvm.MethodName) jdk_78_method_2_code (2 : Nat) (Option.none : Option Jvm.ClassFile.FieldType)).before args0 about1 = true := code_word (m := ⟨9, 1⟩) (meth := k9m1) (c := k9c1) (by decide +kernel) rfl rfl rfl (by decide +kernel)
set_option maxRecDepth 65536 in
theorem w_c13 : (Jvm.Cond.code ({ cls := "java/lang/Throwable", name := "<init>", desc := "()V" } : Jvm.MethodName) jdk_78_method_1_code (1 : Nat) (Option.none : Option Jvm.ClassFile.FieldType)).before args0 about1 = true := code_word (m := ⟨9, 0⟩) (meth := k9m0) (c := k9c0) (by decide +kernel) rfl rfl rfl (by decide +kernel)
set_option maxRecDepth 65536 in
theorem w_c14 : (Jvm.Cond.code ({ cls := "com/example/hamal/hamal/api/ApiException", name := "tooSoon", desc := "(Ljava/lang/String;I)Lcom/example/hamal/hamal/api/ApiException;" } : Jvm.MethodName) prog_5_method_7_code (2 : Nat) (Option.some (Jvm.ClassFile.FieldType.object "com/example/hamal/hamal/api/ApiException"))).before args0 about1 = true := code_word (m := ⟨12, 3⟩) (meth := k12m3) (c := k12c3) (by decide +kernel) rfl rfl rfl (by decide +kernel)
set_option maxRecDepth 65536 in
theorem w_c15 : (Jvm.Cond.code ({ cls := "java/lang/Integer", name := "valueOf", desc := "(I)Ljava/lang/Integer;" } : Jvm.MethodName) jdk_33_method_22_code (1 : Nat) (Option.some (Jvm.ClassFile.FieldType.object "java/lang/Integer"))).before args0 about1 = true := code_word (m := ⟨16, 0⟩) (meth := k16m0) (c := k16c0) (by decide +kernel) rfl rfl rfl (by decide +kernel)
set_option maxRecDepth 65536 in
theorem w_c16 : (Jvm.Cond.code ({ cls := "com/example/hamal/hamal/api/ApiException", name := "retryAfterSeconds", desc := "()Ljava/util/OptionalInt;" } : Jvm.MethodName) prog_5_method_6_code (1 : Nat) (Option.some (Jvm.ClassFile.FieldType.object "java/util/OptionalInt"))).before args0 about1 = true := code_word (m := ⟨12, 2⟩) (meth := k12m2) (c := k12c2) (by decide +kernel) rfl rfl rfl (by decide +kernel)
set_option maxRecDepth 65536 in
theorem w_c17 : (Jvm.Cond.code ({ cls := "java/util/OptionalInt", name := "empty", desc := "()Ljava/util/OptionalInt;" } : Jvm.MethodName) jdk_2649_method_2_code (0 : Nat) (Option.some (Jvm.ClassFile.FieldType.object "java/util/OptionalInt"))).before args0 about1 = true := code_word (m := ⟨18, 1⟩) (meth := k18m1) (c := k18c1) (by decide +kernel) rfl rfl rfl (by decide +kernel)
set_option maxRecDepth 65536 in
theorem w_c18 : (Jvm.Cond.code ({ cls := "java/lang/Integer", name := "intValue", desc := "()I" } : Jvm.MethodName) jdk_33_method_27_code (1 : Nat) (Option.some Jvm.ClassFile.FieldType.int)).before args0 about1 = true := code_word (m := ⟨16, 2⟩) (meth := k16m2) (c := k16c2) (by decide +kernel) rfl rfl rfl (by decide +kernel)
set_option maxRecDepth 65536 in
theorem w_c19 : (Jvm.Cond.code ({ cls := "java/util/OptionalInt", name := "of", desc := "(I)Ljava/util/OptionalInt;" } : Jvm.MethodName) jdk_2649_method_4_code (1 : Nat) (Option.some (Jvm.ClassFile.FieldType.object "java/util/OptionalInt"))).before args0 about1 = true := code_word (m := ⟨18, 3⟩) (meth := k18m3) (c := k18c3) (by decide +kernel) rfl rfl rfl (by decide +kernel)
set_option maxRecDepth 65536 in
theorem w_c20 : (Jvm.Cond.code ({ cls := "java/util/OptionalInt", name := "<init>", desc := "(I)V" } : Jvm.MethodName) jdk_2649_method_3_code (2 : Nat) (Option.none : Option Jvm.ClassFile.FieldType)).before args0 about1 = true := code_word (m := ⟨18, 2⟩) (meth := k18m2) (c := k18c2) (by decide +kernel) rfl rfl rfl (by decide +kernel)
set_option maxRecDepth 65536 in
theorem w_c21 : (Jvm.Cond.code ({ cls := "java/util/OptionalInt", name := "isPresent", desc := "()Z" } : Jvm.MethodName) jdk_2649_method_6_code (1 : Nat) (Option.some Jvm.ClassFile.FieldType.boolean)).before args0 about1 = true := code_word (m := ⟨18, 5⟩) (meth := k18m5) (c := k18c5) (by decide +kernel) rfl rfl rfl (by decide +kernel)
set_option maxRecDepth 65536 in
theorem w_c22 : (Jvm.Cond.code ({ cls := "java/util/OptionalInt", name := "getAsInt", desc := "()I" } : Jvm.MethodName) jdk_2649_method_5_code (1 : Nat) (Option.some Jvm.ClassFile.FieldType.int)).before args0 about1 = true := code_word (m := ⟨18, 4⟩) (meth := k18m4) (c := k18c4) (by decide +kernel) rfl rfl rfl (by decide +kernel)
set_option maxRecDepth 65536 in
theorem w_c23 : (Jvm.Cond.code ({ cls := "java/lang/Integer", name := "<init>", desc := "(I)V" } : Jvm.MethodName) jdk_33_method_23_code (2 : Nat) (Option.none : Option Jvm.ClassFile.FieldType)).before args0 about1 = true := code_word (m := ⟨16, 1⟩) (meth := k16m1) (c := k16c1) (by decide +kernel) rfl rfl rfl (by decide +kernel)
set_option maxRecDepth 65536 in
theorem w_c24 : (Jvm.Cond.code ({ cls := "java/lang/Number", name := "<init>", desc := "()V" } : Jvm.MethodName) jdk_18_method_1_code (1 : Nat) (Option.none : Option Jvm.ClassFile.FieldType)).before args0 about1 = true := code_word (m := ⟨15, 0⟩) (meth := k15m0) (c := k15c0) (by decide +kernel) rfl rfl rfl (by decide +kernel)
def codes1 : List Jvm.Cond := [Jvm.Cond.code x code maxLocals ret, Jvm.Cond.code ({ cls := "java/lang/String", name := "<init>", desc := "([C)V" } : Jvm.MethodName) jdk_42_method_3_code (2 : Nat) (Option.none : Option Jvm.ClassFile.FieldType), Jvm.Cond.code ({ cls := "java/lang/String", name := "<init>", desc := "([CIILjava/lang/Void;)V" } : Jvm.MethodName) jdk_42_method_149_code (6 : Nat) (Option.none : Option Jvm.ClassFile.FieldType), Jvm.Cond.code ({ cls := "java/lang/Object", name := "<init>", desc := "()V" } : Jvm.MethodName) object_method_1_code (1 : Nat) (Option.none : Option Jvm.ClassFile.FieldType), Jvm.Cond.code ({ cls := "java/lang/StringUTF16", name := "compress", desc := "([CII)[B" } : Jvm.MethodName) jdk_52_method_16_code (6 : Nat) (Option.some (Jvm.ClassFile.FieldType.array Jvm.ClassFile.FieldType.byte)), Jvm.Cond.code ({ cls := "java/lang/StringUTF16", name := "compress", desc := "([CI[BII)I" } : Jvm.MethodName) jdk_52_method_21_code (7 : Nat) (Option.some Jvm.ClassFile.FieldType.int), Jvm.Cond.code ({ cls := "java/lang/StringUTF16", name := "coderFromArrayLen", desc := "([BI)B" } : Jvm.MethodName) jdk_52_method_15_code (2 : Nat) (Option.some Jvm.ClassFile.FieldType.byte), Jvm.Cond.code ({ cls := "com/example/hamal/hamal/api/ApiExceptionRetryAfterSecondsPinLaw", name := "pick", desc := "(I)Lcom/example/hamal/hamal/api/ErrorCode;" } : Jvm.MethodName) method_2_code (2 : Nat) (Option.some (Jvm.ClassFile.FieldType.object "com/example/hamal/hamal/api/ErrorCode")), Jvm.Cond.code ({ cls := "com/example/hamal/hamal/api/ApiException", name := "<init>", desc := "(Lcom/example/hamal/hamal/api/ErrorCode;Ljava/lang/String;)V" } : Jvm.MethodName) prog_5_method_1_code (3 : Nat) (Option.none : Option Jvm.ClassFile.FieldType), Jvm.Cond.code ({ cls := "com/example/hamal/hamal/api/ApiException", name := "<init>", desc := "(Lcom/example/hamal/hamal/api/ErrorCode;Ljava/lang/String;Ljava/lang/Integer;)V" } : Jvm.MethodName) prog_5_method_2_code (4 : Nat) (Option.none : Option Jvm.ClassFile.FieldType), Jvm.Cond.code ({ cls := "java/lang/RuntimeException", name := "<init>", desc := "(Ljava/lang/String;)V" } : Jvm.MethodName) jdk_58_method_2_code (2 : Nat) (Option.none : Option Jvm.ClassFile.FieldType), Jvm.Cond.code ({ cls := "java/lang/Exception", name := "<init>", desc := "(Ljava/lang/String;)V" } : Jvm.MethodName) jdk_59_method_2_code (2 : Nat) (Option.none : Option Jvm.ClassFile.FieldType), Jvm.Cond.code ({ cls := "java/lang/Throwable", name := "<init>", desc := "(Ljava/lang/String;)V" } : Jvm.MethodName) jdk_78_method_2_code (2 : Nat) (Option.none : Option Jvm.ClassFile.FieldType), Jvm.Cond.code ({ cls := "java/lang/Throwable", name := "<init>", desc := "()V" } : Jvm.MethodName) jdk_78_method_1_code (1 : Nat) (Option.none : Option Jvm.ClassFile.FieldType), Jvm.Cond.code ({ cls := "com/example/hamal/hamal/api/ApiException", name := "tooSoon", desc := "(Ljava/lang/String;I)Lcom/example/hamal/hamal/api/ApiException;" } : Jvm.MethodName) prog_5_method_7_code (2 : Nat) (Option.some (Jvm.ClassFile.FieldType.object "com/example/hamal/hamal/api/ApiException")), Jvm.Cond.code ({ cls := "java/lang/Integer", name := "valueOf", desc := "(I)Ljava/lang/Integer;" } : Jvm.MethodName) jdk_33_method_22_code (1 : Nat) (Option.some (Jvm.ClassFile.FieldType.object "java/lang/Integer")), Jvm.Cond.code ({ cls := "com/example/hamal/hamal/api/ApiException", name := "retryAfterSeconds", desc := "()Ljava/util/OptionalInt;" } : Jvm.MethodName) prog_5_method_6_code (1 : Nat) (Option.some (Jvm.ClassFile.FieldType.object "java/util/OptionalInt")), Jvm.Cond.code ({ cls := "java/util/OptionalInt", name := "empty", desc := "()Ljava/util/OptionalInt;" } : Jvm.MethodName) jdk_2649_method_2_code (0 : Nat) (Option.some (Jvm.ClassFile.FieldType.object "java/util/OptionalInt")), Jvm.Cond.code ({ cls := "java/lang/Integer", name := "intValue", desc := "()I" } : Jvm.MethodName) jdk_33_method_27_code (1 : Nat) (Option.some Jvm.ClassFile.FieldType.int), Jvm.Cond.code ({ cls := "java/util/OptionalInt", name := "of", desc := "(I)Ljava/util/OptionalInt;" } : Jvm.MethodName) jdk_2649_method_4_code (1 : Nat) (Option.some (Jvm.ClassFile.FieldType.object "java/util/OptionalInt")), Jvm.Cond.code ({ cls := "java/util/OptionalInt", name := "<init>", desc := "(I)V" } : Jvm.MethodName) jdk_2649_method_3_code (2 : Nat) (Option.none : Option Jvm.ClassFile.FieldType), Jvm.Cond.code ({ cls := "java/util/OptionalInt", name := "isPresent", desc := "()Z" } : Jvm.MethodName) jdk_2649_method_6_code (1 : Nat) (Option.some Jvm.ClassFile.FieldType.boolean), Jvm.Cond.code ({ cls := "java/util/OptionalInt", name := "getAsInt", desc := "()I" } : Jvm.MethodName) jdk_2649_method_5_code (1 : Nat) (Option.some Jvm.ClassFile.FieldType.int), Jvm.Cond.code ({ cls := "java/lang/Integer", name := "<init>", desc := "(I)V" } : Jvm.MethodName) jdk_33_method_23_code (2 : Nat) (Option.none : Option Jvm.ClassFile.FieldType), Jvm.Cond.code ({ cls := "java/lang/Number", name := "<init>", desc := "()V" } : Jvm.MethodName) jdk_18_method_1_code (1 : Nat) (Option.none : Option Jvm.ClassFile.FieldType)]
set_option maxRecDepth 65536 in
theorem codes_eq : words1.filter isCode = codes1 := rfl
theorem w_codes : ∀ c ∈ words1.filter isCode, c.before args0 about1 = true := by
  rw [codes_eq]
  intro c hc
  simp only [codes1, List.mem_cons, List.not_mem_nil, or_false] at hc
  rcases hc with rfl | rfl | rfl | rfl | rfl | rfl | rfl | rfl | rfl | rfl | rfl | rfl | rfl | rfl | rfl | rfl | rfl | rfl | rfl | rfl | rfl | rfl | rfl | rfl | rfl
  · exact w_c0
  · exact w_c1
  · exact w_c2
  · exact w_c3
  · exact w_c4
  · exact w_c5
  · exact w_c6
  · exact w_c7
  · exact w_c8
  · exact w_c9
  · exact w_c10
  · exact w_c11
  · exact w_c12
  · exact w_c13
  · exact w_c14
  · exact w_c15
  · exact w_c16
  · exact w_c17
  · exact w_c18
  · exact w_c19
  · exact w_c20
  · exact w_c21
  · exact w_c22
  · exact w_c23
  · exact w_c24
set_option maxRecDepth 65536 in
theorem w_t1 : (words1.take 24).all (fun c => isCode c || c.before args0 about1) = true := by decide +kernel
set_option maxRecDepth 65536 in
theorem w_t2 : ((words1.drop 24).take 24).all (fun c => isCode c || c.before args0 about1) = true := by decide +kernel
set_option maxRecDepth 65536 in
theorem w_t3 : (((words1.drop 24).drop 24).take 24).all (fun c => isCode c || c.before args0 about1) = true := by decide +kernel
set_option maxRecDepth 65536 in
theorem w_t4 : ((((words1.drop 24).drop 24).drop 24).take 24).all (fun c => isCode c || c.before args0 about1) = true := by decide +kernel
set_option maxRecDepth 65536 in
theorem w_t5 : (((((words1.drop 24).drop 24).drop 24).drop 24).take 24).all (fun c => isCode c || c.before args0 about1) = true := by decide +kernel
set_option maxRecDepth 65536 in
theorem w_t6 : ((((((words1.drop 24).drop 24).drop 24).drop 24).drop 24).take 24).all (fun c => isCode c || c.before args0 about1) = true := by decide +kernel
set_option maxRecDepth 65536 in
theorem w_t7 : (((((((words1.drop 24).drop 24).drop 24).drop 24).drop 24).drop 24).take 24).all (fun c => isCode c || c.before args0 about1) = true := by decide +kernel
set_option maxRecDepth 65536 in
theorem w_t8 : (((((((words1.drop 24).drop 24).drop 24).drop 24).drop 24).drop 24).drop 24).all (fun c => isCode c || c.before args0 about1) = true := by decide +kernel
theorem w_tables : (allAtoms (Jvm.Cond.code x code maxLocals ret :: tables_1)).before args0 about1 = true := by
  rw [allAtoms_all]
  show words1.all (fun c => c.before args0 about1) = true
  refine all_split ?_ w_codes
  rw [← List.take_append_drop 24 words1, List.all_append, w_t1, ← List.take_append_drop 24 (words1.drop 24), List.all_append, w_t2, ← List.take_append_drop 24 ((words1.drop 24).drop 24), List.all_append, w_t3, ← List.take_append_drop 24 (((words1.drop 24).drop 24).drop 24), List.all_append, w_t4, ← List.take_append_drop 24 ((((words1.drop 24).drop 24).drop 24).drop 24), List.all_append, w_t5, ← List.take_append_drop 24 (((((words1.drop 24).drop 24).drop 24).drop 24).drop 24), List.all_append, w_t6, ← List.take_append_drop 24 ((((((words1.drop 24).drop 24).drop 24).drop 24).drop 24).drop 24), List.all_append, w_t7, w_t8]
  rfl
set_option maxRecDepth 65536 in
theorem w_rest : rest_1_c.before args0 about1 = true := by decide +kernel
set_option maxRecDepth 65536 in
theorem w_case : (Jvm.Cond.and given_1 narrow_1).before args0 about1 = true := by decide +kernel
theorem w_applies : (headSpec (Jvm.Cond.code x code maxLocals ret :: tables_1) room_1).applies x e0.platform about1 = true :=
  (Spec.applies_iff w_frames).mpr ⟨w_running, w_runnable, w_alone, w_named, w_hears, w_ripe, w_room, w_tables⟩
theorem atStart : AtStart classFile x code maxLocals ret World_1 tables_1 room_1 Calls_1 rest_1 Pre_1 launch0 p0 e0 about1 theMethod args0 below0 :=
  ⟨lists_1, trivial, launch0.admits_env _ _ _, launch0.least_env, fairChoices_fair.cas, fairChoices_fair.clock, w_frames, w_args, w_heap, w_applies, ⟨(by decide +kernel : framesKnown about1 = true), ⟨(by decide +kernel : tablesKnown about1 = true), trivial⟩⟩, w_rest, w_case⟩
end start1
theorem witness_1 : WitnessClaimed_1 := ⟨start1.p0, start1.e0, start1.about1, start1.theMethod, start1.args0, start1.below0, start1.atStart⟩
end Jvm.Pilot.@@N@@
