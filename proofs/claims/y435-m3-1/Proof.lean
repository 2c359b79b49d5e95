import JvmDerived
import JvmDerived.Pilot.@@N@@Statement
import JvmDerived.Pilot.@@N@@Code
set_option linter.unusedVariables false
set_option linter.unusedSimpArgs false

/- laws to paste: Road.backV, Road.eqW, Road.codOf (cut by pick.py; bodies as the Statement names them) -/
namespace Jvm.Pilot.@@N@@
namespace StrChars
open Jvm Sem ClassFile Op Lib Jvm.Stand Jvm.Free.XT Jvm.Free.ALB Jvm.Free.JM Jvm.Free
open Jvm.Lib.Cold (StaticIs)
/-- a char array whose places are chars -/
def Ch (a : Addr) (A : Cell) (U : State) : Prop := Arr .char a A U ∧ Typed .char A
theorem Ch.mv {a : Addr} {A : Cell} {U U' : State} (h : Ch a A U) (hal : U.vm.Alike U'.vm) (hh : U'.heap = U.heap) : Ch a A U' := ⟨h.1.mv hal hh, h.2⟩
theorem Ch.keep {a : Addr} {A : Cell} {U U' : State} (h : Ch a A U) (hal : U.vm.Alike U'.vm) (hk : U'.heap[a]? = some A) : Ch a A U' := ⟨h.1.keep hal hk, h.2⟩
/-- what place i of a char[]'s cell holds -/
def cv (A : Cell) (i : Nat) : Int32 := match A.slots[i]? with | some (.int x) => x | _ => 0
theorem Ch.get {a : Addr} {A : Cell} {U : State} (h : Ch a A U) {i : Nat} (hi : i < A.slots.size) : A.slots[i]? = some (.int (cv A i)) := by
  have e := Array.getElem?_eq_getElem hi
  have f := h.2 i _ e
  unfold cv; rw [e]
  generalize A.slots[i] = v at f
  cases v <;> simp [fits] at f ⊢
/-- the byte that i2b leaves of a char -/
def lo8 (x : Int32) : Int32 := x.toInt8.toInt32
theorem fits_lo8 (y : Int32) : fits .byte (.int (lo8 y)) = true := by
  have h1 := y.toInt8.le_toInt
  have h2 := y.toInt8.toInt_lt
  simp only [lo8, fits, Bool.and_eq_true, decide_eq_true_eq, Int32.le_iff_toInt_le, Int8.toInt_toInt32, show (-128 : Int32).toInt = -128 from by decide, show (127 : Int32).toInt = 127 from by decide]
  omega
/-- A' is A but that each place j of lo .. hi - 1 holds f j -/
def Laid (A A' : Cell) (lo hi : Nat) (f : Nat → Value) : Prop := A'.cls = A.cls ∧ A'.vm = A.vm ∧ A'.slots.size = A.slots.size ∧ ∀ i, A'.slots[i]? = if lo ≤ i ∧ i < hi then some (f i) else A.slots[i]?
theorem Laid.zero (A : Cell) (lo : Nat) (f : Nat → Value) : Laid A A lo (lo + 0) f := ⟨rfl, rfl, rfl, fun i => by rw [if_neg (by omega)]⟩
theorem Laid.step {A Ak : Cell} {lo k : Nat} {f : Nat → Value} {v : Value} (h : Laid A Ak lo k f) (hlo : lo ≤ k) (hk : k < Ak.slots.size) (hv : v = f k) : Laid A (Ak.setSlot k v) lo (k + 1) f := by
  refine ⟨h.1, h.2.1, by simpa [Cell.setSlot] using h.2.2.1, fun i => ?_⟩
  by_cases e : k = i
  · subst e; rw [Cell.slots_setSlot_self v hk, if_pos (by omega), hv]
  · rw [Cell.slots_setSlot_ne v e, h.2.2.2 i]
    by_cases q : lo ≤ i ∧ i < k
    · rw [if_pos q, if_pos (by omega)]
    · rw [if_neg q, if_neg (by omega)]
def U16 : String := "java/lang/StringUTF16"
namespace Cmp5
def yN : MethodName := ⟨"java/lang/StringUTF16", "compress", "([CI[BII)I"⟩
abbrev yB : ByteArray := jdk_52_method_21_code
theorem d0 : decode yB 0 = .ok (.iconst 0, 1) := by decide +kernel
theorem d1 : decode yB 1 = .ok (.istore 5, 2) := by decide +kernel
theorem d3 : decode yB 3 = .ok (.iload 5, 2) := by decide +kernel
theorem d5 : decode yB 5 = .ok (.iload 4, 2) := by decide +kernel
theorem d7 : decode yB 7 = .ok (.if_icmp (.ge) 37, 3) := by decide +kernel
theorem d10 : decode yB 10 = .ok (.aload_n 0, 1) := by decide +kernel
theorem d11 : decode yB 11 = .ok (.iload_n 1, 1) := by decide +kernel
theorem d12 : decode yB 12 = .ok (.caload, 1) := by decide +kernel
theorem d13 : decode yB 13 = .ok (.istore 6, 2) := by decide +kernel
theorem d15 : decode yB 15 = .ok (.iload 6, 2) := by decide +kernel
theorem d17 : decode yB 17 = .ok (.sipush 255, 3) := by decide +kernel
theorem d20 : decode yB 20 = .ok (.if_icmp (.le) 6, 3) := by decide +kernel
theorem d26 : decode yB 26 = .ok (.aload_n 2, 1) := by decide +kernel
theorem d27 : decode yB 27 = .ok (.iload_n 3, 1) := by decide +kernel
theorem d28 : decode yB 28 = .ok (.iload 6, 2) := by decide +kernel
theorem d30 : decode yB 30 = .ok (.i2b, 1) := by decide +kernel
theorem d31 : decode yB 31 = .ok (.bastore, 1) := by decide +kernel
theorem d32 : decode yB 32 = .ok (.iinc 1 1, 3) := by decide +kernel
theorem d35 : decode yB 35 = .ok (.iinc 3 1, 3) := by decide +kernel
theorem d38 : decode yB 38 = .ok (.iinc 5 1, 3) := by decide +kernel
theorem d41 : decode yB 41 = .ok (.goto (-38), 3) := by decide +kernel
theorem d44 : decode yB 44 = .ok (.iload 4, 2) := by decide +kernel
theorem d46 : decode yB 46 = .ok (.ireturn, 1) := by decide +kernel
def site : List Cond := []
def tab : Cond := tabOf yN yB 7 (some .int) site
def P (b : Addr) (A : Cell) (d : Addr) (B : Cell) (o q len : Nat) (args : Array Value) (s : State) : Prop := args = #[.ref b, .int (Int32.ofNat o), .ref d, .int (Int32.ofNat q), .int (Int32.ofNat len)] ∧ Ch b A s ∧ Arr .byte d B s ∧ b ≠ d ∧ o + len ≤ A.slots.size ∧ q + len ≤ B.slots.size ∧ ∀ i, i < len → ¬ 255 < cv A (o + i)
def E (b : Addr) (A : Cell) (d : Addr) (B : Cell) (o q len : Nat) (r : Option Value) (s u : State) : Prop := r = some (.int (Int32.ofNat len)) ∧ ∃ B', Put d B' s u ∧ Laid B B' q (q + len) (fun j => Value.int (lo8 (cv A (o + (j - q)))))
/-- no char of the range above 255: len; the places written hold each char's low byte -/
theorem law (l : Launch) (b : Addr) (A : Cell) (d : Addr) (B : Cell) (o q len : Nat) : Law l yN 5 5 0 0 yB 7 (some .int) site (P b A d B o q len) (E b A d B o q len) (copyLocs d q len) 0 0 := by
  refine Law.of_walk (plainFor_of_name (by decide +kernel)) (by decide +kernel) (by decide +kernel) (by decide) (fun _ _ h => by rw [h.1]; rfl) (fun _ U U' hal hh h => ⟨h.1, h.2.1.mv hal hh, h.2.2.1.mv hal hh, h.2.2.2⟩) (fun r U U' V V' h1 hal h2 h => ⟨h.1, h.2.elim fun B' q => ⟨B', q.1.mv h1 h2, q.2⟩⟩) ?_
  intro p e s m args below meth c s₁ X0 hexec hbytes hml hret hlk hnm hown hh0 W hP
  obtain ⟨rfl, hA, hB, hne, l1, l2, hp⟩ := hP
  have c1 : Steps p.tables e below (s₁.setTop (entryFrame m #[.ref b, .int (Int32.ofNat o), .ref d, .int (Int32.ofNat q), .int (Int32.ofNat len)] 7)) (s₁.setTop (mkF m 0 #[.val (.ref b), .val (.int (Int32.ofNat o)), .val (.ref d), .val (.int (Int32.ofNat q)), .val (.int (Int32.ofNat len)), .unset, .unset] [])) := entry rfl
  have hA0 := hA.1.mv X0.warmed.alike hh0
  have hB0 := hB.mv X0.warmed.alike hh0
  have a31 := hA.1.2.2.2
  have c2 : Steps p.tables e below (s₁.setTop (entryFrame m #[.ref b, .int (Int32.ofNat o), .ref d, .int (Int32.ofNat q), .int (Int32.ofNat len)] 7)) (s₁.setTop (mkF m 3 #[.val (.ref b), .val (.int (Int32.ofNat o)), .val (.ref d), .val (.int (Int32.ofNat q)), .val (.int (Int32.ofNat len)), .val (.int 0), .unset] [])) := c1.trans (by
    refine iconstV X0.here hexec rfl 0 (hb hbytes d0) (by decide) ?_
    refine XS.istore X0.here hexec rfl (hb hbytes d1) rfl rfl ?_
    exact Steps.refl _)
  have loop : ∀ (r i : Nat), i + r = len → ∀ (z : Slot), (z = .unset ∨ ∃ w, z = .val w ∧ w.category = 1) → ∀ (Tl : State) (Bk : Cell), Stand p l e { frames := 0, locals := 0, cells := 0, slots := 0 } s m #[.ref b, .int (Int32.ofNat o), .ref d, .int (Int32.ofNat q), .int (Int32.ofNat len)] below meth c Tl ([] ++ copyLocs d q i) 0 0 → Put d Bk s₁ Tl → Laid B Bk q (q + i) (fun j => Value.int (lo8 (cv A (o + (j - q))))) →
      Steps p.tables e below (s₁.setTop (entryFrame m #[.ref b, .int (Int32.ofNat o), .ref d, .int (Int32.ofNat q), .int (Int32.ofNat len)] 7)) (Tl.setTop (mkF m 3 #[.val (.ref b), .val (.int (Int32.ofNat (o + i))), .val (.ref d), .val (.int (Int32.ofNat (q + i))), .val (.int (Int32.ofNat len)), .val (.int (Int32.ofNat i)), z] [])) → ∃ (T' : State) (B' : Cell) (z' : Slot), Stand p l e { frames := 0, locals := 0, cells := 0, slots := 0 } s m #[.ref b, .int (Int32.ofNat o), .ref d, .int (Int32.ofNat q), .int (Int32.ofNat len)] below meth c T' ([] ++ copyLocs d q len) 0 0 ∧ Put d B' s₁ T' ∧ Laid B B' q (q + len) (fun j => Value.int (lo8 (cv A (o + (j - q))))) ∧
      Steps p.tables e below (s₁.setTop (entryFrame m #[.ref b, .int (Int32.ofNat o), .ref d, .int (Int32.ofNat q), .int (Int32.ofNat len)] 7)) (T'.setTop (mkF m 3 #[.val (.ref b), .val (.int (Int32.ofNat (o + len))), .val (.ref d), .val (.int (Int32.ofNat (q + len))), .val (.int (Int32.ofNat len)), .val (.int (Int32.ofNat len)), z'] [])) := by
    intro r
    induction r with
    | zero =>
      intro i hi z hz Tl Bk Xl pl fl cl
      have hil : i = len := by omega
      rw [hil] at Xl fl cl
      exact ⟨Tl, Bk, z, Xl, pl, fl, cl⟩
    | succ r ih =>
      intro i hi z hz Tl Bk Xl pl fl cl
      have all := X0.warmed.alike.symm.trans Xl.warmed.alike
      have hAl := hA0.keep all (pl.other hne hA0.1)
      have hBk := hB0.like all pl.1 fl.1 fl.2.1 fl.2.2.1
      have hlt : q + i < Bk.slots.size := by rw [fl.2.2.1]; omega
      have c3 : Steps p.tables e below (s₁.setTop (entryFrame m #[.ref b, .int (Int32.ofNat o), .ref d, .int (Int32.ofNat q), .int (Int32.ofNat len)] 7)) (Tl.setTop (mkF m 12 #[.val (.ref b), .val (.int (Int32.ofNat (o + i))), .val (.ref d), .val (.int (Int32.ofNat (q + i))), .val (.int (Int32.ofNat len)), .val (.int (Int32.ofNat i)), z] [.int (Int32.ofNat (o + i)), .ref b])) := cl.trans (by
        refine XS.iload Xl.here hexec rfl (hb hbytes d3) rfl ?_
        refine XS.iload Xl.here hexec rfl (hb hbytes d5) rfl ?_
        refine XS.icmpNo Xl.here hexec rfl (hb hbytes d7) rfl (ii_ge_f (lt32 (by omega) (by omega))) ?_
        refine XS.aloadN Xl.here hexec rfl (hb hbytes d10) rfl rfl ?_
        refine XS.iloadN Xl.here hexec rfl (hb hbytes d11) rfl ?_
        exact Steps.refl _)
      have c4 : Steps p.tables e below (s₁.setTop (entryFrame m #[.ref b, .int (Int32.ofNat o), .ref d, .int (Int32.ofNat q), .int (Int32.ofNat len)] 7)) (Tl.setTop (mkF m 13 #[.val (.ref b), .val (.int (Int32.ofNat (o + i))), .val (.ref d), .val (.int (Int32.ofNat (q + i))), .val (.int (Int32.ofNat len)), .val (.int (Int32.ofNat i)), z] [.int (cv A (o + i))])) := c3.trans (by
        refine Xl.aget hexec hAl rfl (hA.get (i := o + i) (by omega)) rfl rfl (hb hbytes d12) ?_
        exact Steps.refl _)
      have c5 : Steps p.tables e below (s₁.setTop (entryFrame m #[.ref b, .int (Int32.ofNat o), .ref d, .int (Int32.ofNat q), .int (Int32.ofNat len)] 7)) (Tl.setTop (mkF m 15 #[.val (.ref b), .val (.int (Int32.ofNat (o + i))), .val (.ref d), .val (.int (Int32.ofNat (q + i))), .val (.int (Int32.ofNat len)), .val (.int (Int32.ofNat i)), .val (.int (cv A (o + i)))] [])) := c4.trans (by
        refine XS.istoreS Xl.here hexec rfl (hb hbytes d13) rfl rfl hz ?_
        exact Steps.refl _)
      have c6 : Steps p.tables e below (s₁.setTop (entryFrame m #[.ref b, .int (Int32.ofNat o), .ref d, .int (Int32.ofNat q), .int (Int32.ofNat len)] 7)) (Tl.setTop (mkF m 31 #[.val (.ref b), .val (.int (Int32.ofNat (o + i))), .val (.ref d), .val (.int (Int32.ofNat (q + i))), .val (.int (Int32.ofNat len)), .val (.int (Int32.ofNat i)), .val (.int (cv A (o + i)))] [.int (lo8 (cv A (o + i))), .int (Int32.ofNat (q + i)), .ref d])) := c5.trans (by
        refine XS.iload Xl.here hexec rfl (hb hbytes d15) rfl ?_
        refine sipushV Xl.here hexec rfl 255 (hb hbytes d17) (by decide) ?_
        refine XS.icmpYes Xl.here hexec rfl (pc0 := 20) rfl (hb hbytes d20) rfl (ii_le_t (hp i (by omega))) (by decide) rfl ?_
        refine XS.aloadN Xl.here hexec rfl (hb hbytes d26) rfl rfl ?_
        refine XS.iloadN Xl.here hexec rfl (hb hbytes d27) rfl ?_
        refine XS.iload Xl.here hexec rfl (hb hbytes d28) rfl ?_
        refine i2b Xl.here hexec rfl (hb hbytes d30) rfl ?_
        exact Steps.refl _)
      obtain ⟨T7, X7, p7, st7⟩ := Xl.aput hexec hBk rfl hlt rfl (fits_lo8 (cv A (o + i))) (g := (mkF m 31 #[.val (.ref b), .val (.int (Int32.ofNat (o + i))), .val (.ref d), .val (.int (Int32.ofNat (q + i))), .val (.int (Int32.ofNat len)), .val (.int (Int32.ofNat i)), .val (.int (cv A (o + i)))] [.int (lo8 (cv A (o + i))), .int (Int32.ofNat (q + i)), .ref d])) rfl (rest := []) rfl (hb hbytes d31)
      have c8 : Steps p.tables e below (s₁.setTop (entryFrame m #[.ref b, .int (Int32.ofNat o), .ref d, .int (Int32.ofNat q), .int (Int32.ofNat len)] 7)) (T7.setTop (mkF m 32 #[.val (.ref b), .val (.int (Int32.ofNat (o + i))), .val (.ref d), .val (.int (Int32.ofNat (q + i))), .val (.int (Int32.ofNat len)), .val (.int (Int32.ofNat i)), .val (.int (cv A (o + i)))] [])) := c6.trans (st7 _ (Steps.refl _))
      have c9 : Steps p.tables e below (s₁.setTop (entryFrame m #[.ref b, .int (Int32.ofNat o), .ref d, .int (Int32.ofNat q), .int (Int32.ofNat len)] 7)) (T7.setTop (mkF m 3 #[.val (.ref b), .val (.int (Int32.ofNat (o + i) + 1)), .val (.ref d), .val (.int (Int32.ofNat (q + i) + 1)), .val (.int (Int32.ofNat len)), .val (.int (Int32.ofNat i + 1)), .val (.int (cv A (o + i)))] [])) := c8.trans (by
        refine iincV X7.here hexec rfl 1 (hb hbytes d32) (by decide) rfl rfl ?_
        refine iincV X7.here hexec rfl 1 (hb hbytes d35) (by decide) rfl rfl ?_
        refine iincV X7.here hexec rfl 1 (hb hbytes d38) (by decide) rfl rfl ?_
        refine XS.goto X7.here hexec rfl (pc0 := 41) rfl (hb hbytes d41) (by decide) rfl ?_
        exact Steps.refl _)
      have c10 : Steps p.tables e below (s₁.setTop (entryFrame m #[.ref b, .int (Int32.ofNat o), .ref d, .int (Int32.ofNat q), .int (Int32.ofNat len)] 7)) (T7.setTop (mkF m 3 #[.val (.ref b), .val (.int (Int32.ofNat (o + (i + 1)))), .val (.ref d), .val (.int (Int32.ofNat (q + (i + 1)))), .val (.int (Int32.ofNat len)), .val (.int (Int32.ofNat (i + 1))), .val (.int (cv A (o + i)))] [])) := by
        have := c9
        rw [succ32, succ32, succ32] at this
        exact this
      exact ih (i + 1) (by omega) _ (Or.inr ⟨_, rfl, rfl⟩) T7 _ (by rw [copyLocs_step, ← List.append_assoc]; exact X7) (pl.trans p7) (fl.step (by omega) hlt (by simp)) c10
  obtain ⟨T9, B9, z9, X9, p9, f9, g9⟩ := loop len 0 (by omega) .unset (Or.inl rfl) s₁ B (by simpa [copyLocs] using X0) ⟨hB0.1, fun _ _ => rfl, rfl⟩ (Laid.zero _ _ _) c2
  have c11 : Steps p.tables e below (s₁.setTop (entryFrame m #[.ref b, .int (Int32.ofNat o), .ref d, .int (Int32.ofNat q), .int (Int32.ofNat len)] 7)) (T9.setTop (mkF m 46 #[.val (.ref b), .val (.int (Int32.ofNat (o + len))), .val (.ref d), .val (.int (Int32.ofNat (q + len))), .val (.int (Int32.ofNat len)), .val (.int (Int32.ofNat len)), z9] [.int (Int32.ofNat len)])) := g9.trans (by
    refine XS.iload X9.here hexec rfl (hb hbytes d3) rfl ?_
    refine XS.iload X9.here hexec rfl (hb hbytes d5) rfl ?_
    refine XS.icmpYes X9.here hexec rfl (pc0 := 7) rfl (hb hbytes d7) rfl (ii_ge_t (nlt32 (by omega) (Nat.le_refl _))) (by decide) rfl ?_
    refine XS.iload X9.here hexec rfl (hb hbytes d44) rfl ?_
    exact Steps.refl _)
  exact ⟨T9, some (.int (Int32.ofNat len)), _, _, _, X9, by simp, rfl, rfl, (fun h => by cases h), ⟨rfl, B9, p9.from hh0, f9⟩, fun fs hl => c11.trans (X9.ireturnOut hexec hret rfl (Or.inl rfl) (hb hbytes d46) hl)⟩
end Cmp5
namespace Cmp3
def yN : MethodName := ⟨"java/lang/StringUTF16", "compress", "([CII)[B"⟩
abbrev yB : ByteArray := jdk_52_method_16_code
theorem d0 : decode yB 0 = .ok (.iload_n 2, 1) := by decide +kernel
theorem d1 : decode yB 1 = .ok (.newarray .byte, 2) := by decide +kernel
theorem d3 : decode yB 3 = .ok (.astore_n 3, 1) := by decide +kernel
theorem d4 : decode yB 4 = .ok (.aload_n 0, 1) := by decide +kernel
theorem d5 : decode yB 5 = .ok (.iload_n 1, 1) := by decide +kernel
theorem d6 : decode yB 6 = .ok (.aload_n 3, 1) := by decide +kernel
theorem d7 : decode yB 7 = .ok (.iconst 0, 1) := by decide +kernel
theorem d8 : decode yB 8 = .ok (.iload_n 2, 1) := by decide +kernel
theorem d9 : decode yB 9 = .ok (.invokestatic 115, 3) := by decide +kernel
theorem d12 : decode yB 12 = .ok (.istore 4, 2) := by decide +kernel
theorem d14 : decode yB 14 = .ok (.iload 4, 2) := by decide +kernel
theorem d16 : decode yB 16 = .ok (.iload_n 2, 1) := by decide +kernel
theorem d17 : decode yB 17 = .ok (.if_icmp (.eq) 40, 3) := by decide +kernel
theorem d57 : decode yB 57 = .ok (.aload_n 3, 1) := by decide +kernel
theorem d58 : decode yB 58 = .ok (.areturn, 1) := by decide +kernel
def site : List Cond := [.arrayClass .byte, Cmp5.tab] ++ staticW U16 115 Cmp5.yN
def tab : Cond := tabOf yN yB 6 (some (.array .byte)) site
def P (b : Addr) (A : Cell) (o len : Nat) (args : Array Value) (s : State) : Prop := args = #[.ref b, .int (Int32.ofNat o), .int (Int32.ofNat len)] ∧ Ch b A s ∧ o + len ≤ A.slots.size ∧ len ≤ 536870912 ∧ ∀ i, i < len → ¬ 255 < cv A (o + i)
def E (b : Addr) (A : Cell) (o len : Nat) (r : Option Value) (s u : State) : Prop := NewArr .byte "[B" len (fun j => .int (lo8 (cv A (o + j)))) r s u ∧ u.heap.size = s.heap.size + 1
/-- no char of the range above 255: a new byte[] of their low bytes -/
theorem law (l : Launch) (b : Addr) (A : Cell) (o len : Nat) : Law l yN 3 3 1 18 yB 6 (some (.array .byte)) site (P b A o len) (E b A o len) [] 1 len := by
  refine Law.of_walk (plainFor_of_name (by decide +kernel)) (by decide +kernel) (by decide +kernel) (by decide) (fun _ _ h => by rw [h.1]; rfl) (fun _ U U' hal hh h => ⟨h.1, h.2.1.mv hal hh, h.2.2⟩) (fun r U U' V V' h1 hal h2 h => ⟨NewArr.mv r U U' V V' h1 hal h2 h.1, by rw [h1, h2]; exact h.2⟩) ?_
  intro p e s m args below meth c s₁ X0 hexec hbytes hml hret hlk hnm hown hh0 W hP
  obtain ⟨rfl, hA, l1, l2, hp⟩ := hP
  have a31 := hA.1.2.2.2
  have c1 : Steps p.tables e below (s₁.setTop (entryFrame m #[.ref b, .int (Int32.ofNat o), .int (Int32.ofNat len)] 6)) (s₁.setTop (mkF m 0 #[.val (.ref b), .val (.int (Int32.ofNat o)), .val (.int (Int32.ofNat len)), .unset, .unset, .unset] [])) := entry rfl
  have c2 : Steps p.tables e below (s₁.setTop (entryFrame m #[.ref b, .int (Int32.ofNat o), .int (Int32.ofNat len)] 6)) (s₁.setTop (mkF m 1 #[.val (.ref b), .val (.int (Int32.ofNat o)), .val (.int (Int32.ofNat len)), .unset, .unset, .unset] [.int (Int32.ofNat len)])) := c1.trans (by
    refine XS.iloadN X0.here hexec rfl (hb hbytes d0) rfl ?_
    exact Steps.refl _)
  obtain ⟨T3, B3, X3, ba3, bs3, bv3, bh3, bf3, st3⟩ := X0.anew hexec (atype := .byte) (wk W (.arrayClass .byte)) rfl (by show len * 1 ≤ _; omega) (by omega) (g := (mkF m 1 #[.val (.ref b), .val (.int (Int32.ofNat o)), .val (.int (Int32.ofNat len)), .unset, .unset, .unset] [.int (Int32.ofNat len)])) rfl (hb hbytes d1) (rest := []) rfl (Nat.le_refl _) (by show 0 + len ≤ len; omega)
  rw [hh0] at ba3 st3
  have kp3 : XT.Kept s T3 := (XT.Kept.of_eq hh0).push bh3
  have hA3 := hA.keep X3.warmed.alike (kp3 _ _ hA.1.1)
  have hne : b ≠ s.heap.size := hA.1.ne
  have c4 : Steps p.tables e below (s₁.setTop (entryFrame m #[.ref b, .int (Int32.ofNat o), .int (Int32.ofNat len)] 6)) (T3.setTop (mkF m 3 #[.val (.ref b), .val (.int (Int32.ofNat o)), .val (.int (Int32.ofNat len)), .unset, .unset, .unset] [.ref s.heap.size])) := c2.trans (st3 _ (Steps.refl _))
  have c5 : Steps p.tables e below (s₁.setTop (entryFrame m #[.ref b, .int (Int32.ofNat o), .int (Int32.ofNat len)] 6)) (T3.setTop (mkF m 9 #[.val (.ref b), .val (.int (Int32.ofNat o)), .val (.int (Int32.ofNat len)), .val (.ref s.heap.size), .unset, .unset] [.int (Int32.ofNat len), .int 0, .ref s.heap.size, .int (Int32.ofNat o), .ref b])) := c4.trans (by
    refine XS.astoreN X3.here hexec rfl (hb hbytes d3) rfl rfl rfl ?_
    refine XS.aloadN X3.here hexec rfl (hb hbytes d4) rfl rfl ?_
    refine XS.iloadN X3.here hexec rfl (hb hbytes d5) rfl ?_
    refine XS.aloadN X3.here hexec rfl (hb hbytes d6) rfl rfl ?_
    refine iconstV X3.here hexec rfl 0 (hb hbytes d7) (by decide) ?_
    refine XS.iloadN X3.here hexec rfl (hb hbytes d8) rfl ?_
    exact Steps.refl _)
  obtain ⟨v6, T6, X6, E6, g6⟩ := X3.callS hexec (Cmp5.law l b A s.heap.size B3 o 0 len) hown (wks W (staticW U16 115 Cmp5.yN)) (wk W Cmp5.tab) (W := 0) (Nat.le_of_ble_eq_true rfl) (Nat.le_of_ble_eq_true rfl) (Nat.le_refl _) (by show 0 + len + 0 ≤ len; omega) (g := (mkF m 9 #[.val (.ref b), .val (.int (Int32.ofNat o)), .val (.int (Int32.ofNat len)), .val (.ref s.heap.size), .unset, .unset] [.int (Int32.ofNat len), .int (Int32.ofNat 0), .ref s.heap.size, .int (Int32.ofNat o), .ref b])) rfl (by rw [hml]; rfl) c5 (argsL := [.ref b, .int (Int32.ofNat o), .ref s.heap.size, .int (Int32.ofNat 0), .int (Int32.ofNat len)]) (rest := []) rfl rfl (by show 2 * 0 + 0 ≤ _; decide) (hb hbytes d9) (⟨rfl, hA3, ba3, hne, l1, by rw [bs3]; simp, hp⟩)
  obtain ⟨rfl, B6, p6, f6⟩ := E6
  have c7 : Steps p.tables e below (s₁.setTop (entryFrame m #[.ref b, .int (Int32.ofNat o), .int (Int32.ofNat len)] 6)) (T6.setTop (mkF m 12 #[.val (.ref b), .val (.int (Int32.ofNat o)), .val (.int (Int32.ofNat len)), .val (.ref s.heap.size), .unset, .unset] [.int (Int32.ofNat len)])) := g6
  have c8 : Steps p.tables e below (s₁.setTop (entryFrame m #[.ref b, .int (Int32.ofNat o), .int (Int32.ofNat len)] 6)) (T6.setTop (mkF m 58 #[.val (.ref b), .val (.int (Int32.ofNat o)), .val (.int (Int32.ofNat len)), .val (.ref s.heap.size), .val (.int (Int32.ofNat len)), .unset] [.ref s.heap.size])) := c7.trans (by
    refine XS.istore X6.here hexec rfl (hb hbytes d12) rfl rfl ?_
    refine XS.iload X6.here hexec rfl (hb hbytes d14) rfl ?_
    refine XS.iloadN X6.here hexec rfl (hb hbytes d16) rfl ?_
    refine XS.icmpYes X6.here hexec rfl (pc0 := 17) rfl (hb hbytes d17) rfl (ii_eq_t rfl) (by decide) rfl ?_
    refine XS.aloadN X6.here hexec rfl (hb hbytes d57) rfl rfl ?_
    exact Steps.refl _)
  have X8 := X6.wide (L' := []) (cells' := 1) (slots' := len) (fun x hx hlt => by
    simp only [List.nil_append, copyLocs, List.mem_map, List.mem_range] at hx
    obtain ⟨i, -, rfl⟩ := hx
    exact absurd hlt (Nat.lt_irrefl _)) (Nat.le_refl _) (by omega)
  exact ⟨T6, some (.ref s.heap.size), _, _, _, X8, rfl, rfl, rfl, (fun h => by cases h), ⟨⟨rfl, B6, ba3.like (X3.warmed.alike.symm.trans X6.warmed.alike) p6.1 f6.1 f6.2.1 f6.2.2.1, f6.2.1.trans bv3, by rw [X6.warmed.alike.findClass, f6.1]; exact bf3, by rw [f6.2.2.1, bs3]; simp, fun j hj => by rw [f6.2.2.2 j, if_pos (by omega)]; rfl, kp3.put p6 (Nat.le_refl _)⟩, by rw [p6.2.2, bh3, hh0]; simp⟩, fun fs hl => c8.trans (X8.areturnOut hexec rfl hret rfl (hb hbytes d58) hl)⟩
end Cmp3
namespace CodL
def yN : MethodName := ⟨"java/lang/StringUTF16", "coderFromArrayLen", "([BI)B"⟩
abbrev yB : ByteArray := jdk_52_method_15_code
theorem d0 : decode yB 0 = .ok (.iload_n 1, 1) := by decide +kernel
theorem d1 : decode yB 1 = .ok (.aload_n 0, 1) := by decide +kernel
theorem d2 : decode yB 2 = .ok (.arraylength, 1) := by decide +kernel
theorem d3 : decode yB 3 = .ok (.isub, 1) := by decide +kernel
theorem d4 : decode yB 4 = .ok (.bipush 31, 2) := by decide +kernel
theorem d6 : decode yB 6 = .ok (.iushr, 1) := by decide +kernel
theorem d7 : decode yB 7 = .ok (.i2b, 1) := by decide +kernel
theorem d8 : decode yB 8 = .ok (.ireturn, 1) := by decide +kernel
def site : List Cond := []
def tab : Cond := tabOf yN yB 2 (some .byte) site
def P (d : Addr) (B : Cell) (args : Array Value) (s : State) : Prop := args = #[.ref d, .int (Int32.ofNat B.slots.size)] ∧ Arr .byte d B s
def E (r : Option Value) (s u : State) : Prop := XT.PureE (some (.int 0)) r s u
/-- an array as long as the number of chars: LATIN1 -/
theorem law (l : Launch) (d : Addr) (B : Cell) : Law l yN 2 2 0 0 yB 2 (some .byte) site (P d B) E [] 0 0 := by
  refine Law.of_walk (plainFor_of_name (by decide +kernel)) (by decide +kernel) (by decide +kernel) (by decide) (fun _ _ h => by rw [h.1]; rfl) (fun _ U U' hal hh h => ⟨h.1, h.2.mv hal hh⟩) (fun r U U' V V' h1 hal h2 h => XT.PureE.mv r U U' V V' h1 hal h2 h) ?_
  intro p e s m args below meth c s₁ X0 hexec hbytes hml hret hlk hnm hown hh0 W hP
  obtain ⟨rfl, hB⟩ := hP
  have hB0 := hB.mv X0.warmed.alike hh0
  have c1 : Steps p.tables e below (s₁.setTop (entryFrame m #[.ref d, .int (Int32.ofNat B.slots.size)] 2)) (s₁.setTop (mkF m 0 #[.val (.ref d), .val (.int (Int32.ofNat B.slots.size))] [])) := entry rfl
  have c2 : Steps p.tables e below (s₁.setTop (entryFrame m #[.ref d, .int (Int32.ofNat B.slots.size)] 2)) (s₁.setTop (mkF m 2 #[.val (.ref d), .val (.int (Int32.ofNat B.slots.size))] [.ref d, .int (Int32.ofNat B.slots.size)])) := c1.trans (by
    refine XS.iloadN X0.here hexec rfl (hb hbytes d0) rfl ?_
    refine XS.aloadN X0.here hexec rfl (hb hbytes d1) rfl rfl ?_
    exact Steps.refl _)
  have c3 : Steps p.tables e below (s₁.setTop (entryFrame m #[.ref d, .int (Int32.ofNat B.slots.size)] 2)) (s₁.setTop (mkF m 8 #[.val (.ref d), .val (.int (Int32.ofNat B.slots.size))] [.int (lo8 (ushr (Int32.ofNat B.slots.size - Int32.ofNat B.slots.size) 31))])) := c2.trans (by
    refine X0.alen hexec hB0 rfl rfl (hb hbytes d2) ?_
    refine XS.isub X0.here hexec rfl (hb hbytes d3) rfl ?_
    refine bipushV X0.here hexec rfl 31 (hb hbytes d4) (by decide) ?_
    refine iushr X0.here hexec rfl (hb hbytes d6) rfl ?_
    refine i2b X0.here hexec rfl (hb hbytes d7) rfl ?_
    exact Steps.refl _)
  have e0 : lo8 (ushr (Int32.ofNat B.slots.size - Int32.ofNat B.slots.size) 31) = 0 := by rw [Int32.sub_self]; decide
  rw [e0] at c3
  exact ⟨s₁, some (.int 0), _, _, _, X0, rfl, rfl, rfl, (fun h => by cases h), ⟨rfl, hh0⟩, fun fs hl => c3.trans (X0.ireturnOut hexec hret rfl (Or.inr (Or.inr (Or.inl rfl))) (hb hbytes d8) hl)⟩
end CodL
/-- the String at a is Latin-1 over a new byte[] (the heap's one new cell): the low bytes of the len chars of A from o on; every cell but a is kept -/
def Got (a : Addr) (D : Cell) (fV fC : Field) (A : Cell) (o len : Nat) (r : Option Value) (s u : State) : Prop := r = none ∧ ∃ D' V : Cell, Blank "java/lang/String" a D' u ∧ Same D D' [fV.slot, fC.slot] ∧ D'.slots[fV.slot]? = some (.ref s.heap.size) ∧ D'.slots[fC.slot]? = some (.int 0) ∧ Arr .byte s.heap.size V u ∧ V.vm = .none ∧ u.vm.findClass "[B" = some V.cls ∧ V.slots.size = len ∧ (∀ j, j < len → V.slots[j]? = some (.int (lo8 (cv A (o + j))))) ∧ (∀ (y : Addr) (c : Cell), y ≠ a → s.heap[y]? = some c → u.heap[y]? = some c) ∧ u.heap.size = s.heap.size + 1
theorem Got.mv {a : Addr} {D A : Cell} {fV fC : Field} {o len : Nat} : ∀ r (U U' V V' : State), U'.heap = U.heap → V.vm.Alike V'.vm → V'.heap = V.heap → Got a D fV fC A o len r U V → Got a D fV fC A o len r U' V' :=
  fun r U U' V V' h1 hal h2 ⟨e0, D', X, a1, a2, a3, a4, a5, a6, a7, a8, a9, a10, a11⟩ => ⟨e0, D', X, a1.mv hal h2, a2, by rw [h1]; exact a3, a4, by rw [h1]; exact a5.mv hal h2, a6, by rw [hal.findClass]; exact a7, a8, a9, by rw [h1, h2]; exact a10, by rw [h1, h2]; exact a11⟩
namespace New4
def yN : MethodName := ⟨"java/lang/String", "<init>", "([CIILjava/lang/Void;)V"⟩
abbrev yB : ByteArray := jdk_42_method_149_code
theorem d0 : decode yB 0 = .ok (.aload_n 0, 1) := by decide +kernel
theorem d1 : decode yB 1 = .ok (.invokespecial 1, 3) := by decide +kernel
theorem d4 : decode yB 4 = .ok (.iload_n 3, 1) := by decide +kernel
theorem d5 : decode yB 5 = .ok (.ifCond (.ne) 22, 3) := by decide +kernel
theorem d27 : decode yB 27 = .ok (.getstatic 38, 3) := by decide +kernel
theorem d30 : decode yB 30 = .ok (.ifCond (.eq) 28, 3) := by decide +kernel
theorem d33 : decode yB 33 = .ok (.aload_n 1, 1) := by decide +kernel
theorem d34 : decode yB 34 = .ok (.iload_n 2, 1) := by decide +kernel
theorem d35 : decode yB 35 = .ok (.iload_n 3, 1) := by decide +kernel
theorem d36 : decode yB 36 = .ok (.invokestatic 177, 3) := by decide +kernel
theorem d39 : decode yB 39 = .ok (.astore 5, 2) := by decide +kernel
theorem d41 : decode yB 41 = .ok (.aload_n 0, 1) := by decide +kernel
theorem d42 : decode yB 42 = .ok (.aload 5, 2) := by decide +kernel
theorem d44 : decode yB 44 = .ok (.iload_n 3, 1) := by decide +kernel
theorem d45 : decode yB 45 = .ok (.invokestatic 47, 3) := by decide +kernel
theorem d48 : decode yB 48 = .ok (.putfield 15, 3) := by decide +kernel
theorem d51 : decode yB 51 = .ok (.aload_n 0, 1) := by decide +kernel
theorem d52 : decode yB 52 = .ok (.aload 5, 2) := by decide +kernel
theorem d54 : decode yB 54 = .ok (.putfield 9, 3) := by decide +kernel
theorem d57 : decode yB 57 = .ok (.return_, 1) := by decide +kernel
def site : List Cond := [.fieldLink "java/lang/String" 38 "java/lang/String" "COMPACT_STRINGS" "Z", Cmp3.tab, CodL.tab, .laysFinal "java/lang/String" "java/lang/String" "value" "[B", .fieldLink "java/lang/String" 9 "java/lang/String" "value" "[B", .laysFinal "java/lang/String" "java/lang/String" "coder" "B", .fieldLink "java/lang/String" 15 "java/lang/String" "coder" "B"] ++ objW "java/lang/String" 1 ++ staticW "java/lang/String" 177 Cmp3.yN ++ staticW "java/lang/String" 47 CodL.yN
def tab : Cond := tabOf yN yB 6 none site
def P (a : Addr) (D : Cell) (fV fC : Field) (b : Addr) (A : Cell) (z : Int32) (o len : Nat) (args : Array Value) (s : State) : Prop := args = #[.ref a, .ref b, .int (Int32.ofNat o), .int (Int32.ofNat len), .null] ∧ Blank "java/lang/String" a D s ∧ Found "java/lang/String" "value" "[B" fV s ∧ Found "java/lang/String" "coder" "B" fC s ∧ Ch b A s ∧ StaticIs s "java/lang/String" "COMPACT_STRINGS" "Z" (.int z) ∧ ¬ z = 0 ∧ 0 < len ∧ o + len ≤ A.slots.size ∧ len ≤ 536870912 ∧ ∀ i, i < len → ¬ 255 < cv A (o + i)
def E (a : Addr) (D : Cell) (fV fC : Field) (A : Cell) (o len : Nat) (r : Option Value) (s u : State) : Prop := Got a D fV fC A o len r s u
/-- len > 0, no char of the range above 255: a Latin-1 String of their low bytes -/
theorem law (l : Launch) (a : Addr) (D : Cell) (fV fC : Field) (b : Addr) (A : Cell) (z : Int32) (o len : Nat) : Law l yN 5 4 2 35 yB 6 none site (P a D fV fC b A z o len) (E a D fV fC A o len) [⟨a, fC.slot⟩, ⟨a, fV.slot⟩] 1 len := by
  refine Law.of_walk (plainFor_of_name (by decide +kernel)) (by decide +kernel) (by decide +kernel) (by decide) (fun _ _ h => by rw [h.1]; rfl) (fun _ U U' hal hh h => ⟨h.1, h.2.1.mv hal hh, h.2.2.1.al hal, h.2.2.2.1.al hal, h.2.2.2.2.1.mv hal hh, h.2.2.2.2.2.1.there hal hh, h.2.2.2.2.2.2⟩) (fun r U U' V V' h1 hal h2 h => Got.mv r U U' V V' h1 hal h2 h) ?_
  intro p e s m args below meth c s₁ X0 hexec hbytes hml hret hlk hnm hown hh0 W hP
  obtain ⟨rfl, hB, f1, f2, hA, s1, hz, l0, l1, l2, hp⟩ := hP
  have a31 := hA.1.2.2.2
  have c1 : Steps p.tables e below (s₁.setTop (entryFrame m #[.ref a, .ref b, .int (Int32.ofNat o), .int (Int32.ofNat len), .null] 6)) (s₁.setTop (mkF m 0 #[.val (.ref a), .val (.ref b), .val (.int (Int32.ofNat o)), .val (.int (Int32.ofNat len)), .val .null, .unset] [])) := entry rfl
  have c2 : Steps p.tables e below (s₁.setTop (entryFrame m #[.ref a, .ref b, .int (Int32.ofNat o), .int (Int32.ofNat len), .null] 6)) (s₁.setTop (mkF m 1 #[.val (.ref a), .val (.ref b), .val (.int (Int32.ofNat o)), .val (.int (Int32.ofNat len)), .val .null, .unset] [.ref a])) := c1.trans (by
    refine XS.aloadN X0.here hexec rfl (hb hbytes d0) rfl rfl ?_
    exact Steps.refl _)
  obtain ⟨T3, X3, q3, st3⟩ := X0.oinit hexec hown (wks W (objW "java/lang/String" 1)) (g := (mkF m 1 #[.val (.ref a), .val (.ref b), .val (.int (Int32.ofNat o)), .val (.int (Int32.ofNat len)), .val .null, .unset] [.ref a])) rfl (by rw [hml]; rfl) (rest := []) rfl (hb hbytes d1) (W := 0) (by show 2 * 0 + 0 ≤ _; decide) (Nat.le_of_ble_eq_true rfl) (Nat.le_of_ble_eq_true rfl)
  have hh3 := q3.trans hh0
  have c4 : Steps p.tables e below (s₁.setTop (entryFrame m #[.ref a, .ref b, .int (Int32.ofNat o), .int (Int32.ofNat len), .null] 6)) (T3.setTop (mkF m 27 #[.val (.ref a), .val (.ref b), .val (.int (Int32.ofNat o)), .val (.int (Int32.ofNat len)), .val .null, .unset] [])) := (c2.trans (st3 _ (Steps.refl _))).trans (by
    refine XS.iloadN X3.here hexec rfl (hb hbytes d4) rfl ?_
    refine XS.ifYes X3.here hexec rfl (pc0 := 5) rfl (hb hbytes d5) rfl (i0_ne_t (nz32 (by omega) l0)) (by decide) rfl ?_
    exact Steps.refl _)
  obtain ⟨T5, X5, q5, st5⟩ := X3.sget hexec hown (wk W (.fieldLink "java/lang/String" 38 "java/lang/String" "COMPACT_STRINGS" "Z")) s1 (fun _ _ h => by rw [hh3]; exact h) (g := (mkF m 27 #[.val (.ref a), .val (.ref b), .val (.int (Int32.ofNat o)), .val (.int (Int32.ofNat len)), .val .null, .unset] [])) rfl (hb hbytes d27)
  have hh5 := q5.trans hh3
  have c6 : Steps p.tables e below (s₁.setTop (entryFrame m #[.ref a, .ref b, .int (Int32.ofNat o), .int (Int32.ofNat len), .null] 6)) (T5.setTop (mkF m 30 #[.val (.ref a), .val (.ref b), .val (.int (Int32.ofNat o)), .val (.int (Int32.ofNat len)), .val .null, .unset] [.int z])) := c4.trans (st5 _ (Steps.refl _))
  have c7 : Steps p.tables e below (s₁.setTop (entryFrame m #[.ref a, .ref b, .int (Int32.ofNat o), .int (Int32.ofNat len), .null] 6)) (T5.setTop (mkF m 36 #[.val (.ref a), .val (.ref b), .val (.int (Int32.ofNat o)), .val (.int (Int32.ofNat len)), .val .null, .unset] [.int (Int32.ofNat len), .int (Int32.ofNat o), .ref b])) := c6.trans (by
    refine XS.ifNo X5.here hexec rfl (hb hbytes d30) rfl (i0_eq_f hz) ?_
    refine XS.aloadN X5.here hexec rfl (hb hbytes d33) rfl rfl ?_
    refine XS.iloadN X5.here hexec rfl (hb hbytes d34) rfl ?_
    refine XS.iloadN X5.here hexec rfl (hb hbytes d35) rfl ?_
    exact Steps.refl _)
  obtain ⟨v8, T8, X8, E8, g8⟩ := X5.callS hexec (Cmp3.law l b A o len) hown (wks W (staticW "java/lang/String" 177 Cmp3.yN)) (wk W Cmp3.tab) (W := 0) (Nat.le_of_ble_eq_true rfl) (Nat.le_of_ble_eq_true rfl) (Nat.le_refl _) (by show 0 + len ≤ len; omega) (g := (mkF m 36 #[.val (.ref a), .val (.ref b), .val (.int (Int32.ofNat o)), .val (.int (Int32.ofNat len)), .val .null, .unset] [.int (Int32.ofNat len), .int (Int32.ofNat o), .ref b])) rfl (by rw [hml]; rfl) c7 (argsL := [.ref b, .int (Int32.ofNat o), .int (Int32.ofNat len)]) (rest := []) rfl rfl (by show 2 * 0 + 0 ≤ _; decide) (hb hbytes d36) (⟨rfl, hA.mv X5.warmed.alike hh5, l1, l2, hp⟩)
  obtain ⟨e8, z8⟩ := E8
  obtain ⟨rfl, N, n1, n2, n3, n4, n5, n6⟩ := NewArr.mv _ T5 s _ _ hh5.symm (Vm.Alike.refl _) rfl e8
  rw [hh5] at z8
  have hB1 := hB.keep X8.warmed.alike (n6 _ _ hB.1)
  have hne : s.heap.size ≠ a := (Nat.ne_of_lt (Array.getElem?_eq_some_iff.mp hB.1).1).symm
  have c9 : Steps p.tables e below (s₁.setTop (entryFrame m #[.ref a, .ref b, .int (Int32.ofNat o), .int (Int32.ofNat len), .null] 6)) (T8.setTop (mkF m 39 #[.val (.ref a), .val (.ref b), .val (.int (Int32.ofNat o)), .val (.int (Int32.ofNat len)), .val .null, .unset] [.ref s.heap.size])) := g8
  have c10 : Steps p.tables e below (s₁.setTop (entryFrame m #[.ref a, .ref b, .int (Int32.ofNat o), .int (Int32.ofNat len), .null] 6)) (T8.setTop (mkF m 45 #[.val (.ref a), .val (.ref b), .val (.int (Int32.ofNat o)), .val (.int (Int32.ofNat len)), .val .null, .val (.ref s.heap.size)] [.int (Int32.ofNat N.slots.size), .ref s.heap.size, .ref a])) := by
    have hc : Steps p.tables e below (s₁.setTop (entryFrame m #[.ref a, .ref b, .int (Int32.ofNat o), .int (Int32.ofNat len), .null] 6)) (T8.setTop (mkF m 45 #[.val (.ref a), .val (.ref b), .val (.int (Int32.ofNat o)), .val (.int (Int32.ofNat len)), .val .null, .val (.ref s.heap.size)] [.int (Int32.ofNat len), .ref s.heap.size, .ref a])) := c9.trans (by
      refine XS.astore X8.here hexec rfl (hb hbytes d39) rfl rfl rfl ?_
      refine XS.aloadN X8.here hexec rfl (hb hbytes d41) rfl rfl ?_
      refine XS.aload X8.here hexec rfl (hb hbytes d42) rfl rfl ?_
      refine XS.iloadN X8.here hexec rfl (hb hbytes d44) rfl ?_
      exact Steps.refl _)
    rw [n4]; exact hc
  obtain ⟨v11, T11, X11, E11, g11⟩ := X8.callS hexec (CodL.law l s.heap.size N) hown (wks W (staticW "java/lang/String" 47 CodL.yN)) (wk W CodL.tab) (W := 1) (Nat.le_of_ble_eq_true rfl) (Nat.le_of_ble_eq_true rfl) (Nat.le_refl _) (by show 0 + len + 0 ≤ len; omega) (g := (mkF m 45 #[.val (.ref a), .val (.ref b), .val (.int (Int32.ofNat o)), .val (.int (Int32.ofNat len)), .val .null, .val (.ref s.heap.size)] [.int (Int32.ofNat N.slots.size), .ref s.heap.size, .ref a])) rfl (by rw [hml]; rfl) c10 (argsL := [.ref s.heap.size, .int (Int32.ofNat N.slots.size)]) (rest := [.ref a]) rfl rfl (by show 2 * 0 + (1 + 0) ≤ _; decide) (hb hbytes d45) (⟨rfl, n1⟩)
  obtain ⟨rfl, q11⟩ := E11
  have hB11 := hB1.mv (X8.warmed.alike.symm.trans X11.warmed.alike) q11
  have c12 : Steps p.tables e below (s₁.setTop (entryFrame m #[.ref a, .ref b, .int (Int32.ofNat o), .int (Int32.ofNat len), .null] 6)) (T11.setTop (mkF m 48 #[.val (.ref a), .val (.ref b), .val (.int (Int32.ofNat o)), .val (.int (Int32.ofNat len)), .val .null, .val (.ref s.heap.size)] [.int 0, .ref a])) := g11
  obtain ⟨T13, X13, p13, bl13, sl13, st13⟩ := X11.finit hexec hown (wk W (.fieldLink "java/lang/String" 15 "java/lang/String" "coder" "B")) (Or.inr ⟨_, (wk W (.laysFinal "java/lang/String" "java/lang/String" "coder" "B"))⟩) (Or.inl ⟨rfl, hnm⟩) f2 (Or.inl rfl) hB11 (t := .byte) (by decide +kernel) rfl (g := (mkF m 48 #[.val (.ref a), .val (.ref b), .val (.int (Int32.ofNat o)), .val (.int (Int32.ofNat len)), .val .null, .val (.ref s.heap.size)] [.int 0, .ref a])) rfl (rest := []) rfl (hb hbytes d48)
  have c14 : Steps p.tables e below (s₁.setTop (entryFrame m #[.ref a, .ref b, .int (Int32.ofNat o), .int (Int32.ofNat len), .null] 6)) (T13.setTop (mkF m 54 #[.val (.ref a), .val (.ref b), .val (.int (Int32.ofNat o)), .val (.int (Int32.ofNat len)), .val .null, .val (.ref s.heap.size)] [.ref s.heap.size, .ref a])) := (c12.trans (st13 _ (Steps.refl _))).trans (by
    refine XS.aloadN X13.here hexec rfl (hb hbytes d51) rfl rfl ?_
    refine XS.aload X13.here hexec rfl (hb hbytes d52) rfl rfl ?_
    exact Steps.refl _)
  obtain ⟨T15, X15, p15, bl15, sl15, st15⟩ := X13.finit hexec hown (wk W (.fieldLink "java/lang/String" 9 "java/lang/String" "value" "[B")) (Or.inr ⟨_, (wk W (.laysFinal "java/lang/String" "java/lang/String" "value" "[B"))⟩) (Or.inl ⟨rfl, hnm⟩) f1 (Or.inl rfl) bl13 (t := (.array .byte)) (by decide +kernel) rfl (g := (mkF m 54 #[.val (.ref a), .val (.ref b), .val (.int (Int32.ofNat o)), .val (.int (Int32.ofNat len)), .val .null, .val (.ref s.heap.size)] [.ref s.heap.size, .ref a])) rfl (rest := []) rfl (hb hbytes d54)
  have c16 : Steps p.tables e below (s₁.setTop (entryFrame m #[.ref a, .ref b, .int (Int32.ofNat o), .int (Int32.ofNat len), .null] 6)) (T15.setTop (mkF m 57 #[.val (.ref a), .val (.ref b), .val (.int (Int32.ofNat o)), .val (.int (Int32.ofNat len)), .val .null, .val (.ref s.heap.size)] [])) := c14.trans (st15 _ (Steps.refl _))
  have ap := apart (Or.inr ⟨_, (wk W (.laysFinal "java/lang/String" "java/lang/String" "value" "[B"))⟩) (Or.inr ⟨_, (wk W (.laysFinal "java/lang/String" "java/lang/String" "coder" "B"))⟩) f1 f2 (t₁ := .array .byte) (t₂ := .byte) (by decide +kernel) (by decide +kernel) (by decide)
  have al := X8.warmed.alike.symm.trans X15.warmed.alike
  have n7 : T11.heap[s.heap.size]? = some N := by rw [q11]; exact n1.1
  exact ⟨T15, none, _, _, _, X15, by simp, rfl, by omega, (fun _ => rfl), ⟨rfl, _, N, bl15, ((Same.refl D _).set _ (by simp)).set _ (by simp), sl15, (Cell.slots_setSlot_ne _ ap).trans sl13, n1.keep al (p15.other hne (p13.other hne n7)), n2, by rw [al.findClass]; exact n3, n4, n5, fun y c h1 h2 => p15.other h1 (p13.other h1 (by rw [q11]; exact n6 y c h2)), by rw [p15.2.2, p13.2.2, q11]; exact z8⟩, fun fs hl => c16.trans (X15.returnOut hexec hret (hb hbytes d57) hl)⟩
end New4
namespace New1
def yN : MethodName := ⟨"java/lang/String", "<init>", "([C)V"⟩
abbrev yB : ByteArray := jdk_42_method_3_code
theorem d0 : decode yB 0 = .ok (.aload_n 0, 1) := by decide +kernel
theorem d1 : decode yB 1 = .ok (.aload_n 1, 1) := by decide +kernel
theorem d2 : decode yB 2 = .ok (.iconst 0, 1) := by decide +kernel
theorem d3 : decode yB 3 = .ok (.aload_n 1, 1) := by decide +kernel
theorem d4 : decode yB 4 = .ok (.arraylength, 1) := by decide +kernel
theorem d5 : decode yB 5 = .ok (.aconst_null, 1) := by decide +kernel
theorem d6 : decode yB 6 = .ok (.invokespecial 27, 3) := by decide +kernel
theorem d9 : decode yB 9 = .ok (.return_, 1) := by decide +kernel
def site : List Cond := [New4.tab] ++ initW "java/lang/String" 27 New4.yN
def tab : Cond := tabOf yN yB 2 none site
def P (a : Addr) (D : Cell) (fV fC : Field) (b : Addr) (A : Cell) (z : Int32) (args : Array Value) (s : State) : Prop := args = #[.ref a, .ref b] ∧ Blank "java/lang/String" a D s ∧ Found "java/lang/String" "value" "[B" fV s ∧ Found "java/lang/String" "coder" "B" fC s ∧ Ch b A s ∧ StaticIs s "java/lang/String" "COMPACT_STRINGS" "Z" (.int z) ∧ ¬ z = 0 ∧ 0 < A.slots.size ∧ A.slots.size ≤ 536870912 ∧ ∀ i, i < A.slots.size → ¬ 255 < cv A i
def E (a : Addr) (D : Cell) (fV fC : Field) (A : Cell) (r : Option Value) (s u : State) : Prop := Got a D fV fC A 0 A.slots.size r s u
/-- new String(chars), not empty, no char above 255: a Latin-1 String of their low bytes -/
theorem law (l : Launch) (a : Addr) (D : Cell) (fV fC : Field) (b : Addr) (A : Cell) (z : Int32) : Law l yN 2 1 3 52 yB 2 none site (P a D fV fC b A z) (E a D fV fC A) [⟨a, fC.slot⟩, ⟨a, fV.slot⟩] 1 A.slots.size := by
  refine Law.of_walk (plainFor_of_name (by decide +kernel)) (by decide +kernel) (by decide +kernel) (by decide) (fun _ _ h => by rw [h.1]; rfl) (fun _ U U' hal hh h => ⟨h.1, h.2.1.mv hal hh, h.2.2.1.al hal, h.2.2.2.1.al hal, h.2.2.2.2.1.mv hal hh, h.2.2.2.2.2.1.there hal hh, h.2.2.2.2.2.2⟩) (fun r U U' V V' h1 hal h2 h => Got.mv r U U' V V' h1 hal h2 h) ?_
  intro p e s m args below meth c s₁ X0 hexec hbytes hml hret hlk hnm hown hh0 W hP
  obtain ⟨rfl, hB, f1, f2, hA, s1, hz, l0, l2, hp⟩ := hP
  have c1 : Steps p.tables e below (s₁.setTop (entryFrame m #[.ref a, .ref b] 2)) (s₁.setTop (mkF m 0 #[.val (.ref a), .val (.ref b)] [])) := entry rfl
  have c2 : Steps p.tables e below (s₁.setTop (entryFrame m #[.ref a, .ref b] 2)) (s₁.setTop (mkF m 6 #[.val (.ref a), .val (.ref b)] [.null, .int (Int32.ofNat A.slots.size), .int 0, .ref b, .ref a])) := c1.trans (by
    refine XS.aloadN X0.here hexec rfl (hb hbytes d0) rfl rfl ?_
    refine XS.aloadN X0.here hexec rfl (hb hbytes d1) rfl rfl ?_
    refine iconstV X0.here hexec rfl 0 (hb hbytes d2) (by decide) ?_
    refine XS.aloadN X0.here hexec rfl (hb hbytes d3) rfl rfl ?_
    refine X0.alen hexec (hA.1.mv X0.warmed.alike hh0) rfl rfl (hb hbytes d4) ?_
    refine XS.aconstNull X0.here hexec rfl (hb hbytes d5) ?_
    exact Steps.refl _)
  obtain ⟨v3, T3, X3, E3, g3⟩ := X0.callN hexec (New4.law l a D fV fC b A z 0 A.slots.size) rfl hown (wks W (initW "java/lang/String" 27 New4.yN)) (W New4.tab (by simp only [site, List.mem_cons, List.mem_append, true_or, or_true])) (W := 0) (Nat.le_of_ble_eq_true rfl) (Nat.le_of_ble_eq_true rfl) (Nat.le_refl _) (by show 0 + A.slots.size ≤ A.slots.size; omega) (g := (mkF m 6 #[.val (.ref a), .val (.ref b)] [.null, .int (Int32.ofNat A.slots.size), .int (Int32.ofNat 0), .ref b, .ref a])) rfl (by rw [hml]; rfl) c2 (argsL := [.ref b, .int (Int32.ofNat 0), .int (Int32.ofNat A.slots.size), .null]) (rest := []) rfl rfl (by show 2 * 0 + 0 ≤ _; decide) (hb hbytes d6) (⟨rfl, hB.mv X0.warmed.alike hh0, f1.al X0.warmed.alike, f2.al X0.warmed.alike, hA.mv X0.warmed.alike hh0, s1.there X0.warmed.alike hh0, hz, l0, by omega, l2, fun i hi => by rw [Nat.zero_add]; exact hp i hi⟩)
  have e0 := Got.mv _ s₁ s _ _ hh0.symm (Vm.Alike.refl _) rfl E3
  obtain rfl := e0.1
  have c4 : Steps p.tables e below (s₁.setTop (entryFrame m #[.ref a, .ref b] 2)) (T3.setTop (mkF m 9 #[.val (.ref a), .val (.ref b)] [])) := g3
  exact ⟨T3, none, _, _, _, X3, by simp, rfl, by omega, (fun _ => rfl), e0, fun fs hl => c4.trans (X3.returnOut hexec hret (hb hbytes d9) hl)⟩
theorem pays {l : Launch} {R : Room} {p : Program} {e : Env} {below : List Frame} {s : State} {sargs : Array Value} {len W : Nat} (a : Addr) (D : Cell) (fV fC : Field) (b : Addr) (A : Cell) (z : Int32) (htab : tab.before sargs s = true) (hfr : 4 ≤ R.frames) (hlo : W + 65 ≤ R.locals) :
    Back l R p e below s sargs yN len W (fun A₁ a₁ => A₁.cells + 1 ≤ R.cells ∧ A₁.slots + A.slots.size ≤ R.slots ∧ P a D fV fC b A z a₁ A₁.U) (fun A₁ _ v₁ B₁ => E a D fV fC A v₁ A₁.U B₁.U ∧ B₁.locs = A₁.locs ++ [⟨a, fC.slot⟩, ⟨a, fV.slot⟩] ∧ B₁.cells = A₁.cells + 1 ∧ B₁.slots = A₁.slots + A.slots.size) :=
  (law l a D fV fC b A z).pays htab hfr (by omega)
end New1
/-- the byte, read back as charAt reads it, is the char -/
theorem lo8_mask {x : Int32} (h0 : ¬ x < 0) (h1 : ¬ 255 < x) : lo8 x &&& 255 = x := by
  have t : ∀ k : Fin 256, lo8 (Int32.ofNat k.val) &&& 255 = Int32.ofNat k.val := by decide +kernel
  rw [Int32.lt_iff_toInt_lt] at h0 h1
  have e0 : (0 : Int32).toInt = 0 := rfl
  have e1 : (255 : Int32).toInt = 255 := rfl
  obtain ⟨k, hk⟩ : ∃ k : Nat, x.toInt = k := ⟨x.toInt.toNat, by omega⟩
  have hx : x = Int32.ofNat k := Int32.toInt_inj.mp (by rw [hk, Int32.toInt_ofNat_small (by omega)])
  rw [hx]
  exact t ⟨k, by omega⟩
end StrChars
namespace StrChars.Road
open Jvm Sem ClassFile Op Lib Jvm.Stand Jvm.Free Jvm.Free.XT
open Jvm.Lib.Cold (StaticIs)
abbrev ST : String := "java/lang/String"
/-- every table word that New1's law asks, flat -/
abbrev words : List Jvm.Cond := [.code New1.yN New1.yB 2 none, .initialized ST, .methodLink ST 27 New4.yN, .instanceMethod New4.yN,
  .code New4.yN New4.yB 6 none, .fieldLink ST 38 ST "COMPACT_STRINGS" "Z", .laysFinal ST ST "value" "[B", .fieldLink ST 9 ST "value" "[B", .laysFinal ST ST "coder" "B", .fieldLink ST 15 ST "coder" "B",
  .methodLink ST 1 Lib.objectInit, .instanceMethod Lib.objectInit, .code Lib.objectInit ⟨#[0xb1]⟩ 1 none, .methodLink ST 177 Cmp3.yN, .static Cmp3.yN, .methodLink ST 47 CodL.yN, .static CodL.yN,
  .code Cmp3.yN Cmp3.yB 6 (some (.array .byte)), .initialized U16, .arrayClass .byte, .methodLink U16 115 Cmp5.yN, .static Cmp5.yN, .code Cmp5.yN Cmp5.yB 7 (some .int), .code CodL.yN CodL.yB 2 (some .byte)]
theorem tab_of {a : Array Value} {s : State} (h : ∀ w ∈ words, w.before a s = true) : New1.tab.before a s = true := by
  have h5 : Cmp5.tab.before a s = true := unparts (wk h (.code Cmp5.yN Cmp5.yB 7 (some .int))) (wks h (.initialized Cmp5.yN.cls :: Cmp5.site))
  have hc : CodL.tab.before a s = true := unparts (wk h (.code CodL.yN CodL.yB 2 (some .byte))) (wks h (.initialized CodL.yN.cls :: CodL.site))
  have q5 : ∀ w ∈ Cmp5.tab :: words, w.before a s = true := fun w hw => (List.mem_cons.mp hw).elim (fun e => e ▸ h5) (h w)
  have h3 : Cmp3.tab.before a s = true := unparts (wk q5 (.code Cmp3.yN Cmp3.yB 6 (some (.array .byte)))) (wks q5 (.initialized Cmp3.yN.cls :: Cmp3.site))
  have q3 : ∀ w ∈ Cmp3.tab :: CodL.tab :: words, w.before a s = true := fun w hw => (List.mem_cons.mp hw).elim (fun e => e ▸ h3) fun hw => (List.mem_cons.mp hw).elim (fun e => e ▸ hc) (h w)
  have h4 : New4.tab.before a s = true := unparts (wk q3 (.code New4.yN New4.yB 6 none)) (wks q3 (.initialized New4.yN.cls :: New4.site))
  have q4 : ∀ w ∈ New4.tab :: words, w.before a s = true := fun w hw => (List.mem_cons.mp hw).elim (fun e => e ▸ h4) (h w)
  exact unparts (wk q4 (.code New1.yN New1.yB 2 none)) (wks q4 (.initialized New1.yN.cls :: New1.site))
/-- the words ride from the start Z to the walk's own state -/
theorem moved {Z s : State} {a0 args : Array Value} (hZ : Z.Warmed39 s.vm) (hw : ∀ d ∈ words, d.before a0 Z = true) : ∀ d ∈ words, d.before args s = true := fun d hd => by
  have q := hw d hd
  have t : ∀ d ∈ words, d = .arrayClass .byte ∨ (d.onTables && d.keepsFace) = true := by decide +kernel
  rcases t d hd with rfl | t
  · exact RoadKit.mvA hZ q
  · exact RoadKit.mv hZ q t
/-- WHAT COMES BACK, over the tables of the start Z: h the heap at the call, h' behind it -/
def Q (Z : State) (x : Addr) (A : Cell) (h : Heap) (v : Option Value) (h' : Heap) (L : List Loc) : Prop := v = none ∧ (∀ y ∈ L, y.base = x) ∧ RoadKit.Keep h h' [x] ∧ h'.size = h.size + 1 ∧ RoadKit.Exa Z h' x ST ∧ RoadKit.Fld Z h' x ST "value" "[B" (.ref h.size) ∧ RoadKit.Fld Z h' x ST "coder" "B" (.int 0) ∧
  (∃ V : Cell, RoadKit.Arr Z h' h.size V .byte ∧ V.vm = .none ∧ Z.vm.findClass "[B" = some V.cls ∧ V.slots.size = A.slots.size ∧ ∀ j, j < A.slots.size → V.slots[j]? = some (.int (lo8 (cv A j)))) ∧
  ∀ (O n d : String) (w : Value), RoadKit.Fld Z h x O n d w → RoadKit.slotOf Z O n d ≠ RoadKit.slotOf Z ST "value" "[B" → RoadKit.slotOf Z O n d ≠ RoadKit.slotOf Z ST "coder" "B" → RoadKit.Fld Z h' x O n d w
/-- **new String(chars) AT A CALL, IN THE ROAD'S FORM**: for specialBack behind newO: x the fresh String, b the char[] with the cell A -/
theorem back {p : Program} {l : Launch} {e : Env} {R : Room} {s : State} {args : Array Value} {below : List Frame} {len W : Nat} {Z : State} {a0 : Array Value} {h : Heap} (hZ : Z.Warmed39 s.vm) (hw : ∀ d ∈ words, d.before a0 Z = true) {kI : Nat} (wi : (Jvm.Cond.instantiable ST kI).before a0 Z = true)
    {x b : Addr} {A : Cell} {z : Int32} {v0 c0 : Value} (E : RoadKit.Exa Z h x ST) (V : RoadKit.Fld Z h x ST "value" "[B" v0) (C : RoadKit.Fld Z h x ST "coder" "B" c0) (K : RoadKit.Arr Z h b A .char) (hty : Typed .char A) (S : RoadKit.Sta Z h ST "COMPACT_STRINGS" "Z" (.int z)) (hz : ¬ z = 0)
    (l0 : 0 < A.slots.size) (l2 : A.slots.size ≤ 536870912) (hp : ∀ i, i < A.slots.size → ¬ 255 < cv A i) (hfr : 4 ≤ R.frames) (hlo : W + 65 ≤ R.locals) :
    Back l R p e below s args New1.yN len W (fun P a => a = #[.ref x, .ref b] ∧ P.U.heap = h ∧ P.cells + 1 ≤ R.cells ∧ P.slots + A.slots.size ≤ R.slots)
      (fun P _ v B => ∃ L, Q Z x A h v B.U.heap L ∧ B.locs = P.locs ++ L ∧ B.cells = P.cells + 1 ∧ B.slots = P.slots + A.slots.size) := by
  intro m meth c P g ig mk a X hg hsize hdg hW hn hp'
  obtain ⟨rfl, rfl, r1, r2⟩ := hp'
  have al : Z.vm.Alike P.U.vm := hZ.alike.trans X.warmed.alike
  obtain ⟨D, cfV, kV, iV, fV, hD, gV, stV, knV, obV, asV, slV⟩ := id V
  obtain ⟨D', cfC, kC, iC, fC, hD', gC, stC, -, -, asC, slC⟩ := id C
  cases hD.symm.trans hD'
  obtain ⟨D2, kD, e1, e2, e3, e4, e5⟩ := id E
  cases hD.symm.trans e1
  obtain ⟨c2, k2, i1, i2, i3, -⟩ := Cond.instantiable_spec wi
  cases e2.symm.trans i1
  cases e3.symm.trans i2
  obtain ⟨kU, u1, u2⟩ := al.2.2 _ _ e3
  have hB : Blank ST x D P.U := ⟨hD, ⟨knV, fun q hq => by rw [hq] at obV; cases obV⟩, by rw [al.findClass]; exact e2, kU, u1, by rw [u2]; exact i3, by rw [u2]; exact e5 i3⟩
  have F1 : Found ST "value" "[B" fV P.U := ⟨SBG.found_only al ⟨cfV, kV, iV, gV⟩, stV⟩
  have F2 : Found ST "coder" "B" fC P.U := ⟨SBG.found_only al ⟨cfC, kC, iC, gC⟩, stC⟩
  have hA : Ch b A P.U := ⟨⟨K.1, State.isArrayOf_alike al K.2.1, K.2.2, by omega⟩, hty⟩
  have hS : StaticIs P.U ST "COMPACT_STRINGS" "Z" (.int z) := by
    obtain ⟨cfS, iS, kS, fS, st, cS, t1, t2, t3, t4, t5, t6, t7⟩ := S
    exact StaticIs.there (s := { Z with heap := P.U.heap }) ⟨cfS, iS, kS, fS, st, cS, t1, t2, t3, t4, t5, (fun q => by rw [q] at t6; cases t6), t7⟩ al rfl
  obtain ⟨v, B, X', ⟨⟨hv, E', V', q1, q2, q3, q4, q5, q6, q7, q8, q9, q10, q11⟩, hl, hc, hs⟩, st⟩ := New1.pays x D fV fC b A z (tab_of (moved hZ hw)) hfr hlo m meth c P g ig mk _ X hg hsize hdg hW hn ⟨r1, r2, rfl, hB, F1, F2, hA, hS, hz, l0, l2, hp⟩
  have al' : Z.vm.Alike B.U.vm := hZ.alike.trans X'.warmed.alike
  have hsz : E'.slots.size = D.slots.size := by
    obtain ⟨-, -, -, kB, w1, w2, w3⟩ := q1
    obtain ⟨kB', y1, y2⟩ := al'.2.2 _ _ e3
    rw [q2.2.1] at w1
    cases w1.symm.trans y1
    rw [w3, e5 i3, y2]
  refine ⟨v, B, X', ⟨_, ⟨hv, ?_, ⟨by omega, fun y cy hy hn' => q10 y cy (by simpa using hn') hy, fun y cy hy => ?_⟩, q11, ⟨E', _, q1.1, by rw [q2.2.1]; exact e2, by rw [q2.2.1]; exact e3, by rw [q2.1]; exact obV, fun _ => by rw [hsz]; exact e5 i3⟩,
    ⟨E', cfV, kV, iV, fV, q1.1, gV, stV, by rw [q2.1]; exact knV, by rw [q2.1]; exact obV, by rw [q2.2.1]; exact asV, q3⟩, ⟨E', cfC, kC, iC, fC, q1.1, gC, stC, by rw [q2.1]; exact knV, by rw [q2.1]; exact obV, by rw [q2.2.1]; exact asC, q4⟩,
    ⟨V', ⟨q5.1, State.isArrayOf_alike al'.symm q5.2.1, q5.2.2.1⟩, q6, by rw [← al'.findClass]; exact q7, q8, fun j hj => by have := q9 j hj; rwa [Nat.zero_add] at this⟩, fun O n d w F n1 n2 => ?_⟩, hl, hc, hs⟩, st⟩
  · intro y hy
    simp only [List.mem_cons, List.not_mem_nil, or_false] at hy
    rcases hy with rfl | rfl <;> rfl
  · by_cases q : y = x
    · subst q
      cases hD.symm.trans hy
      exact ⟨E', q1.1, q2.2.1, q2.1, hsz⟩
    · exact ⟨cy, q10 y cy q hy, rfl, rfl, rfl⟩
  · obtain ⟨D3, cf, k, i, f, g1, g2, g3, g4, g5, g6, g7⟩ := F
    cases hD.symm.trans g1
    simp only [RoadKit.slotOf, g2, gV, gC, Option.map_some, Option.getD_some] at n1 n2
    exact ⟨E', cf, k, i, f, q1.1, g2, g3, by rw [q2.1]; exact g4, by rw [q2.1]; exact g5, by rw [q2.2.1]; exact g6, by rw [q2.2.2 f.slot (by simp [n1, n2])]; exact g7⟩
end StrChars.Road
namespace StrChars.Road
open Jvm Sem ClassFile Op Lib Jvm.Stand Jvm.Free Jvm.Free.XT
/-- WHAT COMES BACK, the byte[] as a list of values -/
def QA (Z : State) (x : Addr) (zn : Int32) (cs : List Int32) (h : Heap) (v : Option Value) (h' : Heap) (L : List Loc) : Prop := v = none ∧ (∀ y ∈ L, y.base = x) ∧ RoadKit.Keep h h' [x] ∧ h'.size = h.size + 1 ∧ RoadKit.Exa Z h' x ST ∧ RoadKit.Fld Z h' x ST "value" "[B" (.ref h.size) ∧ RoadKit.Fld Z h' x ST "coder" "B" (.int 0) ∧
  (∃ kb, Z.vm.findClass "[B" = some kb ∧ RoadKit.Arv Z h' h.size kb .byte zn (cs.map fun c => .int (lo8 c)) (.int 0)) ∧
  ∀ (O n d : String) (w : Value), RoadKit.Fld Z h x O n d w → RoadKit.slotOf Z O n d ≠ RoadKit.slotOf Z ST "value" "[B" → RoadKit.slotOf Z O n d ≠ RoadKit.slotOf Z ST "coder" "B" → RoadKit.Fld Z h' x O n d w
/-- **new String(chars) AT A CALL, THE ARRAYS AS LISTS**: the char[] at b holds cs, not empty, no char above 255 -/
theorem backArv {p : Program} {l : Launch} {e : Env} {R : Room} {s : State} {args : Array Value} {below : List Frame} {len W : Nat} {Z : State} {a0 : Array Value} {h : Heap} (hZ : Z.Warmed39 s.vm) (hw : ∀ d ∈ words, d.before a0 Z = true) {kI : Nat} (wi : (Jvm.Cond.instantiable ST kI).before a0 Z = true)
    {x b : Addr} {k : ClassId} {zn z : Int32} {cs : List Int32} {dv v0 c0 : Value} (E : RoadKit.Exa Z h x ST) (V : RoadKit.Fld Z h x ST "value" "[B" v0) (C : RoadKit.Fld Z h x ST "coder" "B" c0) (K : RoadKit.Arv Z h b k .char zn (cs.map Value.int) dv) (S : RoadKit.Sta Z h ST "COMPACT_STRINGS" "Z" (.int z)) (hz : ¬ z = 0)
    (hlen : zn.toNatClampNeg = cs.length) (h0 : 0 < cs.length) (hbig : cs.length ≤ 536870912) (hall : ∀ c ∈ cs, ¬ 255 < c) (hfr : 4 ≤ R.frames) (hlo : W + 65 ≤ R.locals) :
    Back l R p e below s args New1.yN len W (fun P a => a = #[.ref x, .ref b] ∧ P.U.heap = h ∧ P.cells + 1 ≤ R.cells ∧ P.slots + cs.length ≤ R.slots)
      (fun P _ v B => ∃ L, QA Z x zn cs h v B.U.heap L ∧ B.locs = P.locs ++ L ∧ B.cells = P.cells + 1 ∧ B.slots = P.slots + cs.length) := by
  obtain ⟨A, K1, K2, K3, K4, K5, K6⟩ := K
  have e : A.slots.size = cs.length := K3.trans hlen
  have hat : ∀ (i : Nat) (hi : i < cs.length), A.slots[i]? = some (.int cs[i]) := fun i hi => by rw [K5 i (by omega)]; simp [List.getD_eq_getElem?_getD, hi]
  have hcv : ∀ (i : Nat) (hi : i < cs.length), cv A i = cs[i] := fun i hi => by unfold cv; rw [hat i hi]
  have hty : Typed .char A := fun i v hv => by
    have hi : i < A.slots.size := (Array.getElem?_eq_some_iff.mp hv).1
    have q := K5 i hi
    rw [hv] at q
    rw [Option.some.inj q]
    exact K6 i hi
  refine Back.mono (back hZ hw wi E V C K1 hty S hz (by omega) (by omega) (fun i hi => by rw [hcv i (by omega)]; exact hall _ (List.getElem_mem _)) hfr hlo) (fun P a hp => ⟨hp.1, hp.2.1, hp.2.2.1, by rw [e]; exact hp.2.2.2⟩) (fun P a v B hp hq => ?_)
  obtain ⟨L, ⟨q1, q2, q3, q4, q5, q6, q7, ⟨V', v1, v2, v3, v4, v5⟩, q9⟩, hl, hc, hs⟩ := hq
  refine ⟨L, ⟨q1, q2, q3, q4, q5, q6, q7, ⟨V'.cls, v3, V', v1, rfl, by rw [v4, e, hlen], K4, fun i hi => ?_, fun i hi => ?_⟩, q9⟩, hl, hc, by rw [hs, e]⟩
  · have hi' : i < cs.length := by omega
    rw [v5 i (by omega), hcv i hi']; simp [List.getD_eq_getElem?_getD, hi']
  · have hi' : i < cs.length := by omega
    simp only [List.getD_eq_getElem?_getD, List.getElem?_map, List.getElem?_eq_getElem hi', Option.map_some, Option.getD_some]
    exact fits_lo8 _
end StrChars.Road
namespace StrChars.Road
open Jvm Sem ClassFile Op Lib Jvm.Stand Jvm.Free Jvm.Free.XT
/-- WHAT COMES BACK, in the writer's own shape -/
def QV (Z : State) (x : Addr) (N : Int32) (bs : List Int32) (h : Heap) (n0 : Nat) (v : Option Value) (h' : Heap) (L : List Loc) : Prop := v = none ∧ RoadKit.Fr n0 L ∧ RoadKit.Keep h h' [x] ∧ RoadKit.Exa Z h' x ST ∧ RoadKit.Fld Z h' x ST "coder" "B" (.int 0) ∧
  ∃ (t : Addr) (kb : ClassId), n0 ≤ t ∧ h.size ≤ t ∧ ¬ t = x ∧ RoadKit.Fld Z h' x ST "value" "[B" (.ref t) ∧ RoadKit.Arv Z h' t kb .byte N (bs.map Value.int) (.int 0)
/-- **new String(chars) AT A CALL, FOR THE WRITER**: a char[] of n known ints, each 0 to 255 -/
theorem backV {p : Program} {l : Launch} {e : Env} {R : Room} {s : State} {args : Array Value} {below : List Frame} {len W : Nat} {Z : State} {a0 : Array Value} {h : Heap} (hZ : Z.Warmed39 s.vm) (hw : ∀ d ∈ words, d.before a0 Z = true) {kI : Nat} (wi : (Jvm.Cond.instantiable ST kI).before a0 Z = true)
    {x b : Addr} {kC : ClassId} {cs bs : List Int32} {d v0 c0 : Value} {z N : Int32} {n n0 : Nat} (hx0 : n0 ≤ x) (hh0 : n0 ≤ h.size) (E : RoadKit.Exa Z h x ST) (V : RoadKit.Fld Z h x ST "value" "[B" v0) (C : RoadKit.Fld Z h x ST "coder" "B" c0) (K : RoadKit.Arv Z h b kC .char N (cs.map Value.int) d) (S : RoadKit.Sta Z h ST "COMPACT_STRINGS" "Z" (.int z)) (hz : ¬ z = 0)
    (hn : cs.length = n) (hN : N = Int32.ofNat n) (l0 : 0 < n) (l2 : n ≤ 4000) (hp : ∀ c ∈ cs, ¬ c < 0 ∧ ¬ (255 : Int32) < c) (hb : bs = cs.map (fun c => c.toInt8.toInt32)) (hfr : 4 ≤ R.frames) (hlo : W + 65 ≤ R.locals) :
    Back l R p e below s args (⟨"java/lang/String", "<init>", "([C)V"⟩ : MethodName) len W (fun P a => a = #[.ref x, .ref b] ∧ P.U.heap = h ∧ P.cells + 1 ≤ R.cells ∧ P.slots + n ≤ R.slots)
      (fun P _ v B => ∃ L, QV Z x N bs h n0 v B.U.heap L ∧ B.locs = P.locs ++ L ∧ B.cells = P.cells + 1 ∧ B.slots = P.slots + n) := by
  subst hn hN hb
  refine Back.mono (backArv hZ hw wi E V C K S hz (n32 (by omega)) l0 (by omega) (fun c hc => (hp c hc).2) hfr hlo) (fun P a hp => hp) (fun P a v B hp hq => ?_)
  obtain ⟨L, ⟨q1, q2, q3, q4, q5, q6, q7, ⟨kb, v1, v2⟩, q9⟩, hl, hc, hs⟩ := hq
  exact ⟨L, ⟨q1, fun y hy => by rw [q2 y hy]; exact hx0, q3, q5, q7, h.size, kb, hh0, Nat.le_refl _, Nat.ne_of_gt E.lt, q6, by rw [List.map_map]; exact v2⟩, hl, hc, hs⟩
end StrChars.Road
namespace StrChars
open Jvm Sem ClassFile Op Lib Jvm.Stand Jvm.Free.XT Jvm.Free.ALB Jvm.Free.JM Jvm.Free
open Jvm.Lib.Cold (StaticIs)
def hi8 (x : Int32) : Int32 := lo8 (x >>> ((8 : Int32) &&& 31))
/-- what StringUTF16.getChar makes of two bytes -/
def pairCh (u v : Int32) : Int32 := (((u &&& 255) <<< ((0 : Int32) &&& 31)) ||| ((v &&& 255) <<< ((8 : Int32) &&& 31))).toUInt32.toUInt16.toUInt32.toInt32
theorem lo8_and (x : Int32) : (lo8 x &&& 255).toBitVec.toNat = x.toBitVec.toNat % 256 := by
  have h : (lo8 x).toBitVec = (x.toBitVec.signExtend 8).signExtend 32 := by rw [lo8, Int8.toBitVec_toInt32, Int32.toBitVec_toInt8]
  rw [Int32.toBitVec_and, BitVec.toNat_and, h]
  have e : ((x.toBitVec.signExtend 8).signExtend 32).toNat % 256 = x.toBitVec.toNat % 256 := by
    rw [BitVec.toNat_signExtend]
    have hlt := x.toBitVec.isLt
    simp only [BitVec.toNat_setWidth, BitVec.toNat_signExtend]
    split <;> split <;> omega
  rw [← e]
  exact Nat.and_two_pow_sub_one_eq_mod _ 8
theorem pair_says {c : Int32} (h0 : ¬ c < 0) (h1 : ¬ 65535 < c) : pairCh (lo8 c) (hi8 c) = c := by
  rw [Int32.lt_iff_toInt_lt] at h0 h1
  have e0 : (0 : Int32).toInt = 0 := rfl
  have e1 : (65535 : Int32).toInt = 65535 := rfl
  have hc : c.toInt = c.toBitVec.toNat := by
    have := c.toBitVec.isLt
    have e : c.toInt = c.toBitVec.toInt := rfl
    rw [e] at h0 h1
    rw [e]
    rw [BitVec.toInt_eq_toNat_cond] at h0 h1 ⊢
    split at h0 <;> split <;> omega
  have hn : c.toBitVec.toNat < 65536 := by omega
  have a1 := lo8_and c
  have a2 : (hi8 c &&& 255).toBitVec.toNat = c.toBitVec.toNat / 256 := by
    rw [hi8, lo8_and]
    have e : ((8 : Int32) &&& 31) = 8 := by decide
    rw [e, Int32.toBitVec_shiftRight]
    have e2 : ((8 : Int32).toBitVec.smod 32) = 8#32 := by decide
    rw [e2, BitVec.sshiftRight_eq', BitVec.toNat_sshiftRight_of_msb_false (by rw [BitVec.msb_eq_false_iff_two_mul_lt]; omega)]
    show c.toBitVec.toNat >>> 8 % 256 = _
    rw [Nat.shiftRight_eq_div_pow]
    omega
  unfold pairCh
  apply Int32.toBitVec_inj.mp
  apply BitVec.eq_of_toNat_eq
  have f0 : ((0 : Int32) &&& 31) = 0 := by decide
  have f8 : ((8 : Int32) &&& 31) = 8 := by decide
  rw [f0, f8]
  have g : (((lo8 c &&& 255) <<< (0 : Int32)) ||| ((hi8 c &&& 255) <<< (8 : Int32))).toBitVec.toNat = c.toBitVec.toNat := by
    rw [Int32.toBitVec_or, Int32.toBitVec_shiftLeft, Int32.toBitVec_shiftLeft]
    have s0 : ((0 : Int32).toBitVec.smod 32) = 0#32 := by decide
    have s8 : ((8 : Int32).toBitVec.smod 32) = 8#32 := by decide
    rw [s0, s8, BitVec.toNat_or]
    simp only [BitVec.shiftLeft_eq', BitVec.toNat_shiftLeft, a1, a2]
    show (c.toBitVec.toNat % 256) <<< 0 % 2 ^ 32 ||| (c.toBitVec.toNat / 256) <<< 8 % 2 ^ 32 = _
    rw [Nat.shiftLeft_zero, Nat.mod_eq_of_lt (show c.toBitVec.toNat % 256 < 2 ^ 32 by omega), Nat.mod_eq_of_lt (show (c.toBitVec.toNat / 256) <<< 8 < 2 ^ 32 by rw [Nat.shiftLeft_eq]; omega), Nat.or_comm, ← Nat.shiftLeft_add_eq_or_of_lt (by omega), Nat.shiftLeft_eq]
    omega
  show BitVec.toNat (((((lo8 c &&& 255) <<< (0 : Int32)) ||| ((hi8 c &&& 255) <<< (8 : Int32))).toBitVec.setWidth 16).setWidth 32) = _
  rw [BitVec.toNat_setWidth, BitVec.toNat_setWidth, g]
  omega
end StrChars
namespace StrChars
open Jvm Sem ClassFile Op Lib Jvm.Stand Jvm.Free.XT Jvm.Free.ALB Jvm.Free.JM Jvm.Free
open Jvm.Lib.Cold (StaticIs)
/-- the array's cell V codes the n chars f 0 .. f (n - 1) by the coder cd, as the JDK does: coder 1 just where some char is above 255 -/
def Cod (cd : Int32) (n : Nat) (f : Nat → Int32) (V : Cell) : Prop := (cd = 0 ∧ V.slots.size = n ∧ ∀ j, j < n → V.slots[j]? = some (.int (lo8 (f j))) ∧ ¬ 255 < f j) ∨ (cd = 1 ∧ V.slots.size = 2 * n ∧ (∀ j, j < n → V.slots[2 * j]? = some (.int (lo8 (f j))) ∧ V.slots[2 * j + 1]? = some (.int (hi8 (f j)))) ∧ ∃ j, j < n ∧ 255 < f j)
/-- **x is a String of the n chars f 0 .. f (n - 1)**, Latin-1 or UTF-16; its array at t has the cell V -/
def Txt (x t : Addr) (V : Cell) (cd : Int32) (n : Nat) (f : Nat → Int32) (U : State) : Prop := Exact "java/lang/String" x U ∧ Has x "java/lang/String" "value" "[B" (.ref t) U ∧ Has x "java/lang/String" "coder" "B" (.int cd) U ∧ XT.Arr .byte t V U ∧ Cod cd n f V ∧ ∀ j, j < n → ¬ f j < 0 ∧ ¬ 65535 < f j
theorem Txt.mv {x t : Addr} {V : Cell} {cd : Int32} {n : Nat} {f : Nat → Int32} {U U' : State} (h : Txt x t V cd n f U) (hal : U.vm.Alike U'.vm) (hh : U'.heap = U.heap) : Txt x t V cd n f U' := ⟨h.1.mv hal hh, h.2.1.mv hal hh, h.2.2.1.mv hal hh, h.2.2.2.1.mv hal hh, h.2.2.2.2⟩
end StrChars
namespace StrChars.Road
open Jvm Sem ClassFile Op Lib Jvm.Stand Jvm.Free Jvm.Free.XT
open Jvm.Lib.Cold (StaticIs)
theorem consq {a : Array Value} {s : State} {c : Jvm.Cond} {L : List Jvm.Cond} (h0 : c.before a s = true) (h : ∀ w ∈ L, w.before a s = true) : ∀ w ∈ c :: L, w.before a s = true := fun w hw => (List.mem_cons.mp hw).elim (fun e => e ▸ h0) (h w)
/-- the bytes of the chars cs, low before high -/
def wideBytes : List Int32 → List Value
  | [] => []
  | c :: cs => .int (lo8 c) :: .int (hi8 c) :: wideBytes cs
theorem wide_lo (d : Value) : ∀ (cs : List Int32) (j : Nat), j < cs.length → (wideBytes cs).getD (2 * j) d = .int (lo8 (cs.getD j 0))
  | [], j, h => absurd h (Nat.not_lt_zero j)
  | c :: cs, 0, _ => rfl
  | c :: cs, j + 1, h => by
    have q := wide_lo d cs j (by simpa using h)
    rw [show 2 * (j + 1) = 2 * j + 1 + 1 from by omega]
    simpa [wideBytes] using q
theorem wide_hi (d : Value) : ∀ (cs : List Int32) (j : Nat), j < cs.length → (wideBytes cs).getD (2 * j + 1) d = .int (hi8 (cs.getD j 0))
  | [], j, h => absurd h (Nat.not_lt_zero j)
  | c :: cs, 0, _ => rfl
  | c :: cs, j + 1, h => by
    have q := wide_hi d cs j (by simpa using h)
    rw [show 2 * (j + 1) + 1 = 2 * j + 1 + 1 + 1 from by omega]
    simpa [wideBytes] using q
theorem low_at (d : Value) (cs : List Int32) (j : Nat) (h : j < cs.length) : (cs.map fun c => Value.int (lo8 c)).getD j d = .int (lo8 (cs.getD j 0)) := by
  simp [List.getD_eq_getElem?_getD, h]
/-- an array of N2 bytes vs codes the chars cs by the coder cd -/
def CodA (cs : List Int32) (cd N2 : Int32) (vs : List Value) : Prop := (cd = 0 ∧ N2 = Int32.ofNat cs.length ∧ vs = (cs.map fun c => Value.int (lo8 c)) ∧ ∀ c ∈ cs, ¬ 255 < c) ∨ (cd = 1 ∧ N2 = Int32.ofNat (2 * cs.length) ∧ vs = wideBytes cs ∧ ∃ c ∈ cs, 255 < c)
theorem CodA.cod {cs : List Int32} {cd N2 : Int32} {vs : List Value} {V : Cell} (h : CodA cs cd N2 vs) (hn : 2 * cs.length < 2 ^ 31) (hs : V.slots.size = N2.toNatClampNeg) (hv : RoadKit.Has V vs (.int 0)) : Cod cd cs.length (fun j => cs.getD j 0) V := by
  rcases h with ⟨rfl, rfl, rfl, h⟩ | ⟨rfl, rfl, rfl, c, hc, hw⟩
  · rw [n32 (by omega)] at hs
    exact Or.inl ⟨rfl, hs, fun j hj => ⟨by rw [hv j (by omega), low_at _ _ _ hj], by
      have e : cs.getD j 0 = cs[j] := by simp [List.getD_eq_getElem?_getD, hj]
      show ¬ 255 < cs.getD j 0
      rw [e]; exact h _ (List.getElem_mem _)⟩⟩
  · rw [n32 (by omega)] at hs
    obtain ⟨j, hj, rfl⟩ := List.getElem_of_mem hc
    exact Or.inr ⟨rfl, hs, fun j hj => ⟨by rw [hv _ (by omega), wide_lo _ _ _ hj], by rw [hv _ (by omega), wide_hi _ _ _ hj]⟩, j, hj, by
      have e : cs.getD j 0 = cs[j] := by simp [List.getD_eq_getElem?_getD, hj]
      show 255 < cs.getD j 0
      rw [e]; exact hw⟩
/-- an object of exactly java/lang/String, its two fields found: as the laws ask it -/
theorem strObj {Z U : State} {a0 : Array Value} {kI : Nat} (wi : (Jvm.Cond.instantiable ST kI).before a0 Z = true) (al : Z.vm.Alike U.vm) {x : Addr} {v0 c0 : Value} (E : RoadKit.Exa Z U.heap x ST) (V : RoadKit.Fld Z U.heap x ST "value" "[B" v0) (C : RoadKit.Fld Z U.heap x ST "coder" "B" c0) :
    ∃ (D : Cell) (fV fC : Field), Blank ST x D U ∧ Found ST "value" "[B" fV U ∧ Found ST "coder" "B" fC U ∧ D.slots[fV.slot]? = some v0 ∧ D.slots[fC.slot]? = some c0 ∧ RoadKit.slotOf Z ST "value" "[B" = fV.slot ∧ RoadKit.slotOf Z ST "coder" "B" = fC.slot := by
  obtain ⟨D, cfV, kV, iV, fV, hD, gV, stV, knV, obV, asV, slV⟩ := V
  obtain ⟨D', cfC, kC, iC, fC, hD', gC, stC, -, -, asC, slC⟩ := C
  cases hD.symm.trans hD'
  obtain ⟨D2, kD, e1, e2, e3, e4, e5⟩ := E
  cases hD.symm.trans e1
  obtain ⟨c2, k2, i1, i2, i3, -⟩ := Cond.instantiable_spec wi
  cases e2.symm.trans i1
  cases e3.symm.trans i2
  obtain ⟨kU, u1, u2⟩ := al.2.2 _ _ e3
  exact ⟨D, fV, fC, ⟨hD, ⟨knV, fun q hq => by rw [hq] at obV; cases obV⟩, by rw [al.findClass]; exact e2, kU, u1, by rw [u2]; exact i3, by rw [u2]; exact e5 i3⟩, ⟨SBG.found_only al ⟨cfV, kV, iV, gV⟩, stV⟩, ⟨SBG.found_only al ⟨cfC, kC, iC, gC⟩, stC⟩, slV, slC, by simp [RoadKit.slotOf, gV], by simp [RoadKit.slotOf, gC]⟩
theorem sta_is {Z U : State} (al : Z.vm.Alike U.vm) {C n d : String} {v : Value} (S : RoadKit.Sta Z U.heap C n d v) : StaticIs U C n d v := by
  obtain ⟨cfS, iS, kS, fS, st, cS, t1, t2, t3, t4, t5, t6, t7⟩ := S
  exact StaticIs.there (s := { Z with heap := U.heap }) ⟨cfS, iS, kS, fS, st, cS, t1, t2, t3, t4, t5, (fun q => by rw [q] at t6; cases t6), t7⟩ al rfl
end StrChars.Road
namespace StrChars
open Jvm Sem ClassFile Op Lib Jvm.Stand Jvm.Free.XT Jvm.Free.ALB Jvm.Free.JM Jvm.Free
open Jvm.Lib.Cold (StaticIs)
/-- what place i of a byte[]'s cell holds -/
def yv (A : Cell) (i : Nat) : Int32 := match A.slots[i]? with | some (.int x) => x | _ => 0
theorem yv_get {a : Addr} {A : Cell} {U : State} (h : XT.Arr .byte a A U) (ht : Typed .byte A) {i : Nat} (hi : i < A.slots.size) : A.slots[i]? = some (.int (yv A i)) := by
  have e := Array.getElem?_eq_getElem hi
  have f := ht i _ e
  unfold yv; rw [e]
  generalize A.slots[i] = v at f
  cases v <;> simp [fits] at f ⊢
/-- the two arrays are equal, place for place -/
def EqC (A B : Cell) : Prop := A.slots.size = B.slots.size ∧ ∀ i, i < A.slots.size → yv A i = yv B i
/-- a boolean that says whether p -/
def Says01 (q : Prop) (r : Option Value) (s u : State) : Prop := ∃ v : Int32, r = some (.int v) ∧ u.heap = s.heap ∧ ((v = 1 ∧ q) ∨ (v = 0 ∧ ¬ q))
theorem Says01.mv {q : Prop} : ∀ r (U U' V V' : State), U'.heap = U.heap → V.vm.Alike V'.vm → V'.heap = V.heap → Says01 q r U V → Says01 q r U' V' :=
  fun r U U' V V' h1 _ h2 ⟨v, a, b, c⟩ => ⟨v, a, by rw [h1, h2]; exact b, c⟩
namespace LEq
def yN : MethodName := ⟨"java/lang/StringLatin1", "equals", "([B[B)Z"⟩
abbrev yB : ByteArray := jdk_43_method_13_code
theorem d0 : decode yB 0 = .ok (.aload_n 0, 1) := by decide +kernel
theorem d1 : decode yB 1 = .ok (.arraylength, 1) := by decide +kernel
theorem d2 : decode yB 2 = .ok (.aload_n 1, 1) := by decide +kernel
theorem d3 : decode yB 3 = .ok (.arraylength, 1) := by decide +kernel
theorem d4 : decode yB 4 = .ok (.if_icmp (.ne) 30, 3) := by decide +kernel
theorem d7 : decode yB 7 = .ok (.iconst 0, 1) := by decide +kernel
theorem d8 : decode yB 8 = .ok (.istore_n 2, 1) := by decide +kernel
theorem d9 : decode yB 9 = .ok (.iload_n 2, 1) := by decide +kernel
theorem d10 : decode yB 10 = .ok (.aload_n 0, 1) := by decide +kernel
theorem d11 : decode yB 11 = .ok (.arraylength, 1) := by decide +kernel
theorem d12 : decode yB 12 = .ok (.if_icmp (.ge) 20, 3) := by decide +kernel
theorem d15 : decode yB 15 = .ok (.aload_n 0, 1) := by decide +kernel
theorem d16 : decode yB 16 = .ok (.iload_n 2, 1) := by decide +kernel
theorem d17 : decode yB 17 = .ok (.baload, 1) := by decide +kernel
theorem d18 : decode yB 18 = .ok (.aload_n 1, 1) := by decide +kernel
theorem d19 : decode yB 19 = .ok (.iload_n 2, 1) := by decide +kernel
theorem d20 : decode yB 20 = .ok (.baload, 1) := by decide +kernel
theorem d21 : decode yB 21 = .ok (.if_icmp (.eq) 5, 3) := by decide +kernel
theorem d24 : decode yB 24 = .ok (.iconst 0, 1) := by decide +kernel
theorem d25 : decode yB 25 = .ok (.ireturn, 1) := by decide +kernel
theorem d26 : decode yB 26 = .ok (.iinc 2 1, 3) := by decide +kernel
theorem d29 : decode yB 29 = .ok (.goto (-20), 3) := by decide +kernel
theorem d32 : decode yB 32 = .ok (.iconst 1, 1) := by decide +kernel
theorem d33 : decode yB 33 = .ok (.ireturn, 1) := by decide +kernel
theorem d34 : decode yB 34 = .ok (.iconst 0, 1) := by decide +kernel
theorem d35 : decode yB 35 = .ok (.ireturn, 1) := by decide +kernel
def site : List Cond := []
def tab : Cond := tabOf yN yB 3 (some .boolean) site
def P (a : Addr) (A : Cell) (b : Addr) (B : Cell) (args : Array Value) (s : State) : Prop := args = #[.ref a, .ref b] ∧ XT.Arr .byte a A s ∧ Typed .byte A ∧ XT.Arr .byte b B s ∧ Typed .byte B
/-- whether two byte[] are equal, place for place -/
theorem law (l : Launch) (a : Addr) (A : Cell) (b : Addr) (B : Cell) : Law l yN 2 2 0 0 yB 3 (some .boolean) site (P a A b B) (Says01 (EqC A B)) [] 0 0 := by
  refine Law.of_walk (plainFor_of_name (by decide +kernel)) (by decide +kernel) (by decide +kernel) (by decide) (fun _ _ h => by rw [h.1]; rfl) (fun _ U U' hal hh h => ⟨h.1, h.2.1.mv hal hh, h.2.2.1, h.2.2.2.1.mv hal hh, h.2.2.2.2⟩) (fun r U U' V V' h1 hal h2 h => Says01.mv r U U' V V' h1 hal h2 h) ?_
  intro p e s m args below meth c s₁ X0 hexec hbytes hml hret hlk hnm hown hh0 W hP
  obtain ⟨rfl, hA, tA, hB, tB⟩ := hP
  have a31 := hA.2.2.2
  have b31 := hB.2.2.2
  have hA0 := hA.mv X0.warmed.alike hh0
  have hB0 := hB.mv X0.warmed.alike hh0
  have c1 : Steps p.tables e below (s₁.setTop (entryFrame m #[.ref a, .ref b] 3)) (s₁.setTop (mkF m 0 #[.val (.ref a), .val (.ref b), .unset] [])) := entry rfl
  have c2 : Steps p.tables e below (s₁.setTop (entryFrame m #[.ref a, .ref b] 3)) (s₁.setTop (mkF m 4 #[.val (.ref a), .val (.ref b), .unset] [.int (Int32.ofNat B.slots.size), .int (Int32.ofNat A.slots.size)])) := c1.trans (by
    refine XS.aloadN X0.here hexec rfl (hb hbytes d0) rfl rfl ?_
    refine X0.alen hexec hA0 rfl rfl (hb hbytes d1) ?_
    refine XS.aloadN X0.here hexec rfl (hb hbytes d2) rfl rfl ?_
    refine X0.alen hexec hB0 rfl rfl (hb hbytes d3) ?_
    exact Steps.refl _)
  by_cases hs : A.slots.size = B.slots.size
  · have c3 : Steps p.tables e below (s₁.setTop (entryFrame m #[.ref a, .ref b] 3)) (s₁.setTop (mkF m 9 #[.val (.ref a), .val (.ref b), .val (.int 0)] [])) := c2.trans (by
      refine XS.icmpNo X0.here hexec rfl (hb hbytes d4) rfl (ii_ne_f (by rw [hs])) ?_
      refine iconstV X0.here hexec rfl 0 (hb hbytes d7) (by decide) ?_
      refine XS.istoreN X0.here hexec rfl (hb hbytes d8) rfl rfl ?_
      exact Steps.refl _)
    have loop : ∀ (r i : Nat), i + r = A.slots.size → (∀ j, j < i → yv A j = yv B j) → Steps p.tables e below (s₁.setTop (entryFrame m #[.ref a, .ref b] 3)) (s₁.setTop (mkF m 9 #[.val (.ref a), .val (.ref b), .val (.int (Int32.ofNat i))] [])) → ∃ (pc : Nat) (Ls : Array Slot) (v : Int32), (pc = 25 ∨ pc = 33) ∧ ((v = 1 ∧ EqC A B) ∨ (v = 0 ∧ ¬ EqC A B)) ∧ Steps p.tables e below (s₁.setTop (entryFrame m #[.ref a, .ref b] 3)) (s₁.setTop (mkF m pc Ls [.int v])) := by
      intro r
      induction r with
      | zero =>
        intro i hi he cl
        exact ⟨33, _, 1, Or.inr rfl, Or.inl ⟨rfl, hs, fun j hj => he j (by omega)⟩, cl.trans (by
          refine XS.iloadN X0.here hexec rfl (hb hbytes d9) rfl ?_
          refine XS.aloadN X0.here hexec rfl (hb hbytes d10) rfl rfl ?_
          refine X0.alen hexec hA0 rfl rfl (hb hbytes d11) ?_
          refine XS.icmpYes X0.here hexec rfl (pc0 := 12) rfl (hb hbytes d12) rfl (ii_ge_t (nlt32 (by omega) (by omega))) (by decide) rfl ?_
          refine iconstV X0.here hexec rfl 1 (hb hbytes d32) (by decide) ?_
          exact Steps.refl _)⟩
      | succ r ih =>
        intro i hi he cl
        have c4 : Steps p.tables e below (s₁.setTop (entryFrame m #[.ref a, .ref b] 3)) (s₁.setTop (mkF m 21 #[.val (.ref a), .val (.ref b), .val (.int (Int32.ofNat i))] [.int (yv B i), .int (yv A i)])) := cl.trans (by
          refine XS.iloadN X0.here hexec rfl (hb hbytes d9) rfl ?_
          refine XS.aloadN X0.here hexec rfl (hb hbytes d10) rfl rfl ?_
          refine X0.alen hexec hA0 rfl rfl (hb hbytes d11) ?_
          refine XS.icmpNo X0.here hexec rfl (hb hbytes d12) rfl (ii_ge_f (lt32 (by omega) (by omega))) ?_
          refine XS.aloadN X0.here hexec rfl (hb hbytes d15) rfl rfl ?_
          refine XS.iloadN X0.here hexec rfl (hb hbytes d16) rfl ?_
          refine X0.aget hexec hA0 rfl (yv_get hA tA (i := i) (by omega)) rfl rfl (hb hbytes d17) ?_
          refine XS.aloadN X0.here hexec rfl (hb hbytes d18) rfl rfl ?_
          refine XS.iloadN X0.here hexec rfl (hb hbytes d19) rfl ?_
          refine X0.aget hexec hB0 rfl (yv_get hB tB (i := i) (by omega)) rfl rfl (hb hbytes d20) ?_
          exact Steps.refl _)
        by_cases hv : yv A i = yv B i
        · have c5 : Steps p.tables e below (s₁.setTop (entryFrame m #[.ref a, .ref b] 3)) (s₁.setTop (mkF m 9 #[.val (.ref a), .val (.ref b), .val (.int (Int32.ofNat i + 1))] [])) := c4.trans (by
            refine XS.icmpYes X0.here hexec rfl (pc0 := 21) rfl (hb hbytes d21) rfl (ii_eq_t hv) (by decide) rfl ?_
            refine iincV X0.here hexec rfl 1 (hb hbytes d26) (by decide) rfl rfl ?_
            refine XS.goto X0.here hexec rfl (pc0 := 29) rfl (hb hbytes d29) (by decide) rfl ?_
            exact Steps.refl _)
          rw [succ32] at c5
          exact ih (i + 1) (by omega) (fun j hj => by
            by_cases e : j = i
            · rw [e]; exact hv
            · exact he j (by omega)) c5
        · exact ⟨25, _, 0, Or.inl rfl, Or.inr ⟨rfl, fun q => hv (q.2 i (by omega))⟩, c4.trans (by
            refine XS.icmpNo X0.here hexec rfl (hb hbytes d21) rfl (ii_eq_f hv) ?_
            refine iconstV X0.here hexec rfl 0 (hb hbytes d24) (by decide) ?_
            exact Steps.refl _)⟩
    obtain ⟨pc, Ls, v, hpc, hv, cz⟩ := loop A.slots.size 0 (by omega) (fun j hj => absurd hj (Nat.not_lt_zero j)) c3
    have nv : narrow .boolean (.int v) = .int v := by rcases hv with ⟨rfl, -⟩ | ⟨rfl, -⟩ <;> rfl
    rcases hpc with rfl | rfl
    · exact ⟨s₁, some (.int v), _, _, _, X0, rfl, rfl, rfl, (fun h => by cases h), ⟨v, rfl, hh0, hv⟩, fun fs hl => cz.trans (X0.ireturnOut hexec hret nv (Or.inr (Or.inl rfl)) (hb hbytes d25) hl)⟩
    · exact ⟨s₁, some (.int v), _, _, _, X0, rfl, rfl, rfl, (fun h => by cases h), ⟨v, rfl, hh0, hv⟩, fun fs hl => cz.trans (X0.ireturnOut hexec hret nv (Or.inr (Or.inl rfl)) (hb hbytes d33) hl)⟩
  · have c3 : Steps p.tables e below (s₁.setTop (entryFrame m #[.ref a, .ref b] 3)) (s₁.setTop (mkF m 35 #[.val (.ref a), .val (.ref b), .unset] [.int 0])) := c2.trans (by
      refine XS.icmpYes X0.here hexec rfl (pc0 := 4) rfl (hb hbytes d4) rfl (ii_ne_t (ne32 a31 b31 hs)) (by decide) rfl ?_
      refine iconstV X0.here hexec rfl 0 (hb hbytes d34) (by decide) ?_
      exact Steps.refl _)
    exact ⟨s₁, some (.int 0), _, _, _, X0, rfl, rfl, rfl, (fun h => by cases h), ⟨0, rfl, hh0, Or.inr ⟨rfl, fun q => hs q.1⟩⟩, fun fs hl => c3.trans (X0.ireturnOut hexec hret rfl (Or.inr (Or.inl rfl)) (hb hbytes d35) hl)⟩
end LEq
theorem Cod.ty {cd : Int32} {n : Nat} {f : Nat → Int32} {V : Cell} (h : Cod cd n f V) : Typed .byte V := fun i v hv => by
  have hi : i < V.slots.size := (Array.getElem?_eq_some_iff.mp hv).1
  rcases h with ⟨-, k1, k2⟩ | ⟨-, k1, k2, -⟩
  · rw [(k2 i (by omega)).1] at hv; cases hv; exact fits_lo8 _
  · rcases Nat.mod_two_eq_zero_or_one i with e | e
    · obtain ⟨j, rfl⟩ : ∃ j, i = 2 * j := ⟨i / 2, by omega⟩
      rw [(k2 j (by omega)).1] at hv; cases hv; exact fits_lo8 _
    · obtain ⟨j, rfl⟩ : ∃ j, i = 2 * j + 1 := ⟨i / 2, by omega⟩
      rw [(k2 j (by omega)).2] at hv; cases hv; exact fits_lo8 _
/-- the same text -/
def SameT (n : Nat) (f : Nat → Int32) (k : Nat) (g : Nat → Int32) : Prop := n = k ∧ ∀ j, j < n → f j = g j
theorem lo8_inj {x y : Int32} (h0 : ¬ x < 0) (h1 : ¬ 255 < x) (k0 : ¬ y < 0) (k1 : ¬ 255 < y) (h : lo8 x = lo8 y) : x = y := by
  rw [← lo8_mask h0 h1, ← lo8_mask k0 k1, h]
/-- arrays coded by one coder are equal just where the texts are -/
theorem Cod.eqv {cd : Int32} {n k : Nat} {f g : Nat → Int32} {V V' : Cell} (h : Cod cd n f V) (h' : Cod cd k g V') (hf : ∀ j, j < n → ¬ f j < 0 ∧ ¬ 65535 < f j) (hg : ∀ j, j < k → ¬ g j < 0 ∧ ¬ 65535 < g j) : EqC V V' ↔ SameT n f k g := by
  have yvv : ∀ {W : Cell} {i : Nat} {x : Int32}, W.slots[i]? = some (.int x) → yv W i = x := fun q => by unfold yv; rw [q]
  rcases h with ⟨rfl, k1, k2⟩ | ⟨rfl, k1, k2, -⟩
  · rcases h' with ⟨-, m1, m2⟩ | ⟨e, -⟩
    · constructor
      · rintro ⟨e1, e2⟩
        refine ⟨by omega, fun j hj => ?_⟩
        have q := e2 j (by omega)
        rw [yvv (k2 j hj).1, yvv (m2 j (by omega)).1] at q
        exact lo8_inj (hf j hj).1 (k2 j hj).2 (hg j (by omega)).1 (m2 j (by omega)).2 q
      · rintro ⟨rfl, e2⟩
        refine ⟨by omega, fun j hj => ?_⟩
        rw [yvv (k2 j (by omega)).1, yvv (m2 j (by omega)).1, e2 j (by omega)]
    · exact absurd e (by decide)
  · rcases h' with ⟨e, -⟩ | ⟨-, m1, m2, -⟩
    · exact absurd e (by decide)
    · constructor
      · rintro ⟨e1, e2⟩
        refine ⟨by omega, fun j hj => ?_⟩
        have q1 := e2 (2 * j) (by omega)
        have q2 := e2 (2 * j + 1) (by omega)
        rw [yvv (k2 j hj).1, yvv (m2 j (by omega)).1] at q1
        rw [yvv (k2 j hj).2, yvv (m2 j (by omega)).2] at q2
        rw [← pair_says (hf j hj).1 (hf j hj).2, ← pair_says (hg j (by omega)).1 (hg j (by omega)).2, q1, q2]
      · rintro ⟨rfl, e2⟩
        refine ⟨by omega, fun i hi => ?_⟩
        rcases Nat.mod_two_eq_zero_or_one i with e | e
        · obtain ⟨j, rfl⟩ : ∃ j, i = 2 * j := ⟨i / 2, by omega⟩
          rw [yvv (k2 j (by omega)).1, yvv (m2 j (by omega)).1, e2 j (by omega)]
        · obtain ⟨j, rfl⟩ : ∃ j, i = 2 * j + 1 := ⟨i / 2, by omega⟩
          rw [yvv (k2 j (by omega)).2, yvv (m2 j (by omega)).2, e2 j (by omega)]
/-- two codings differ: so do the texts -/
theorem Cod.dif {cd cd' : Int32} {n k : Nat} {f g : Nat → Int32} {V V' : Cell} (h : Cod cd n f V) (h' : Cod cd' k g V') (hne : ¬ cd = cd') : ¬ SameT n f k g := by
  rintro ⟨rfl, e⟩
  rcases h with ⟨rfl, -, k2⟩ | ⟨rfl, -, -, j, hj, hw⟩
  · rcases h' with ⟨rfl, -⟩ | ⟨-, -, -, j, hj, hw⟩
    · exact hne rfl
    · exact (k2 j hj).2 (by rw [e j hj]; exact hw)
  · rcases h' with ⟨-, -, m2⟩ | ⟨rfl, -⟩
    · exact (m2 j hj).2 (by rw [← e j hj]; exact hw)
    · exact hne rfl
/-- an object of exactly C is an instance of C -/
theorem cinst {p : Program} {l : Launch} {e : Env} {R : Room} {s : State} {m : MethodId} {args : Array Value} {below : List Frame} {meth : Method} {c : Code} {T : State} {locs : List Loc} {cells slots : Nat} (X : Stand p l e R s m args below meth c T locs cells slots) (hexec : p.tables.exec = Jvm.exec) {own C : String} {index : Nat} (hown : s.vm.findClass own = some m.cls) (hlink : (Cond.classLink own index C).before args s = true) {a : Addr} (hE : Exact C a T)
    {g : JFrame} (hg : g.method = m) {rest : List Value} (hstack : g.stack = .ref a :: rest) (hdg : decode c.code g.pc = .ok (.instanceof index, 3)) :
    ∃ T', Stand p l e R s m args below meth c T' locs cells slots ∧ T'.heap = T.heap ∧ ∀ target, Steps p.tables e below (T'.setTop { g with pc := g.pc + 3, stack := .int 1 :: rest }) target → Steps p.tables e below (T.setTop g) target := by
  obtain ⟨cB, h1, D, h2, h3, h4⟩ := hE
  have h1' : s.vm.findClass C = some cB := by rw [← X.warmed.alike.findClass]; exact h1
  obtain ⟨vm', X', st⟩ := X.instanceofYes hexec hown hlink h2 h4 h1' (by rw [h3]; exact Jvm.Free.SB.assignable_self _ _) hg hstack hdg
  exact ⟨_, X', rfl, st⟩
theorem cself {p : Program} {l : Launch} {e : Env} {R : Room} {s : State} {m : MethodId} {args : Array Value} {below : List Frame} {meth : Method} {c : Code} {T : State} {locs : List Loc} {cells slots : Nat} (X : Stand p l e R s m args below meth c T locs cells slots) (hexec : p.tables.exec = Jvm.exec) {own C : String} {index : Nat} (hown : s.vm.findClass own = some m.cls) (hlink : (Cond.classLink own index C).before args s = true) {a : Addr} (hE : Exact C a T)
    {g : JFrame} (hg : g.method = m) {rest : List Value} (hstack : g.stack = .ref a :: rest) (hdg : decode c.code g.pc = .ok (.checkcast index, 3)) :
    ∃ T', Stand p l e R s m args below meth c T' locs cells slots ∧ T'.heap = T.heap ∧ ∀ target, Steps p.tables e below (T'.setTop { g with pc := g.pc + 3, stack := .ref a :: rest }) target → Steps p.tables e below (T.setTop g) target := by
  obtain ⟨cB, h1, D, h2, h3, h4⟩ := hE
  have h1' : s.vm.findClass C = some cB := by rw [← X.warmed.alike.findClass]; exact h1
  obtain ⟨vm', X', st⟩ := X.checkcastYes hexec hown hlink h2 h4 h1' (by rw [h3]; exact Jvm.Free.SB.assignable_self _ _) hg hstack hdg
  exact ⟨_, X', rfl, fun t h => st t (by rw [← hstack] at h; exact h)⟩
namespace SEq
def yN : MethodName := ⟨"java/lang/String", "equals", "(Ljava/lang/Object;)Z"⟩
abbrev yB : ByteArray := jdk_42_method_66_code
theorem d0 : decode yB 0 = .ok (.aload_n 0, 1) := by decide +kernel
theorem d1 : decode yB 1 = .ok (.aload_n 1, 1) := by decide +kernel
theorem d2 : decode yB 2 = .ok (.if_acmp (.ne) 5, 3) := by decide +kernel
theorem d5 : decode yB 5 = .ok (.iconst 1, 1) := by decide +kernel
theorem d6 : decode yB 6 = .ok (.ireturn, 1) := by decide +kernel
theorem d7 : decode yB 7 = .ok (.aload_n 1, 1) := by decide +kernel
theorem d8 : decode yB 8 = .ok (.instanceof 10, 3) := by decide +kernel
theorem d11 : decode yB 11 = .ok (.ifCond (.eq) 43, 3) := by decide +kernel
theorem d14 : decode yB 14 = .ok (.aload_n 1, 1) := by decide +kernel
theorem d15 : decode yB 15 = .ok (.checkcast 10, 3) := by decide +kernel
theorem d18 : decode yB 18 = .ok (.astore_n 2, 1) := by decide +kernel
theorem d19 : decode yB 19 = .ok (.getstatic 38, 3) := by decide +kernel
theorem d22 : decode yB 22 = .ok (.ifCond (.eq) 14, 3) := by decide +kernel
theorem d25 : decode yB 25 = .ok (.aload_n 0, 1) := by decide +kernel
theorem d26 : decode yB 26 = .ok (.getfield 15, 3) := by decide +kernel
theorem d29 : decode yB 29 = .ok (.aload_n 2, 1) := by decide +kernel
theorem d30 : decode yB 30 = .ok (.getfield 15, 3) := by decide +kernel
theorem d33 : decode yB 33 = .ok (.if_icmp (.ne) 21, 3) := by decide +kernel
theorem d36 : decode yB 36 = .ok (.aload_n 0, 1) := by decide +kernel
theorem d37 : decode yB 37 = .ok (.getfield 9, 3) := by decide +kernel
theorem d40 : decode yB 40 = .ok (.aload_n 2, 1) := by decide +kernel
theorem d41 : decode yB 41 = .ok (.getfield 9, 3) := by decide +kernel
theorem d44 : decode yB 44 = .ok (.invokestatic 541, 3) := by decide +kernel
theorem d47 : decode yB 47 = .ok (.ifCond (.eq) 7, 3) := by decide +kernel
theorem d50 : decode yB 50 = .ok (.iconst 1, 1) := by decide +kernel
theorem d51 : decode yB 51 = .ok (.goto 4, 3) := by decide +kernel
theorem d54 : decode yB 54 = .ok (.iconst 0, 1) := by decide +kernel
theorem d55 : decode yB 55 = .ok (.ireturn, 1) := by decide +kernel
def site : List Cond := [.classLink "java/lang/String" 10 "java/lang/String", .fieldLink "java/lang/String" 38 "java/lang/String" "COMPACT_STRINGS" "Z", .fieldLink "java/lang/String" 15 "java/lang/String" "coder" "B", .fieldLink "java/lang/String" 9 "java/lang/String" "value" "[B", LEq.tab] ++ staticW "java/lang/String" 541 LEq.yN
def tab : Cond := tabOf yN yB 3 (some .boolean) site
def P (x t : Addr) (V : Cell) (cd : Int32) (n : Nat) (f : Nat → Int32) (y t' : Addr) (V' : Cell) (cd' : Int32) (k : Nat) (g : Nat → Int32) (z : Int32) (args : Array Value) (s : State) : Prop := args = #[.ref x, .ref y] ∧ Txt x t V cd n f s ∧ Txt y t' V' cd' k g s ∧ StaticIs s "java/lang/String" "COMPACT_STRINGS" "Z" (.int z) ∧ ¬ z = 0
/-- equals(Object) of two Strings: whether the texts are the same -/
theorem law (l : Launch) (x t : Addr) (V : Cell) (cd : Int32) (n : Nat) (f : Nat → Int32) (y t' : Addr) (V' : Cell) (cd' : Int32) (k : Nat) (g : Nat → Int32) (z : Int32) : Law l yN 2 1 1 14 yB 3 (some .boolean) site (P x t V cd n f y t' V' cd' k g z) (Says01 (SameT n f k g)) [] 0 0 := by
  refine Law.of_walk (plainFor_of_name (by decide +kernel)) (by decide +kernel) (by decide +kernel) (by decide) (fun _ _ h => by rw [h.1]; rfl) (fun _ U U' hal hh h => ⟨h.1, h.2.1.mv hal hh, h.2.2.1.mv hal hh, h.2.2.2.1.there hal hh, h.2.2.2.2⟩) (fun r U U' V V' h1 hal h2 h => Says01.mv r U U' V V' h1 hal h2 h) ?_
  intro p e s m args below meth c s₁ X0 hexec hbytes hml hret hlk hnm hown hh0 W hP
  obtain ⟨rfl, hx, hy, s1, hz⟩ := hP
  have c1 : Steps p.tables e below (s₁.setTop (entryFrame m #[.ref x, .ref y] 3)) (s₁.setTop (mkF m 2 #[.val (.ref x), .val (.ref y), .unset] [.ref y, .ref x])) := Steps.trans (entry rfl) (by
    show Steps p.tables e below (s₁.setTop (mkF m 0 #[.val (.ref x), .val (.ref y), .unset] [])) _
    refine XS.aloadN X0.here hexec rfl (hb hbytes d0) rfl rfl ?_
    refine XS.aloadN X0.here hexec rfl (hb hbytes d1) rfl rfl ?_
    exact Steps.refl _)
  by_cases hxy : x = y
  · have c2 : Steps p.tables e below (s₁.setTop (entryFrame m #[.ref x, .ref y] 3)) (s₁.setTop (mkF m 6 #[.val (.ref x), .val (.ref y), .unset] [.int 1])) := c1.trans (by
      refine acmpNo X0.here hexec rfl (hb hbytes d2) rfl rfl rfl (by simp [acmp, hxy]) ?_
      refine iconstV X0.here hexec rfl 1 (hb hbytes d5) (by decide) ?_
      exact Steps.refl _)
    subst hxy
    have ec : cd = cd' := by
      obtain ⟨D, fd, a1, a2, a3⟩ := hx.2.2.1
      obtain ⟨D', fd', b1, b2, b3⟩ := hy.2.2.1
      cases a1.symm.trans b1
      obtain ⟨q1, q2, q3, q4⟩ := a2.1
      obtain ⟨r1, r2, r3, r4⟩ := b2.1
      cases q4.symm.trans r4
      cases a3.symm.trans b3; rfl
    have et : t = t' := by
      obtain ⟨D, fd, a1, a2, a3⟩ := hx.2.1
      obtain ⟨D', fd', b1, b2, b3⟩ := hy.2.1
      cases a1.symm.trans b1
      obtain ⟨q1, q2, q3, q4⟩ := a2.1
      obtain ⟨r1, r2, r3, r4⟩ := b2.1
      cases q4.symm.trans r4
      cases a3.symm.trans b3; rfl
    subst ec et
    have ev : V = V' := by cases hx.2.2.2.1.1.symm.trans hy.2.2.2.1.1; rfl
    subst ev
    have hs : SameT n f k g := (Cod.eqv hx.2.2.2.2.1 hy.2.2.2.2.1 hx.2.2.2.2.2 hy.2.2.2.2.2).mp ⟨rfl, fun _ _ => rfl⟩
    exact ⟨s₁, some (.int 1), _, _, _, X0, rfl, rfl, rfl, (fun h => by cases h), ⟨1, rfl, hh0, Or.inl ⟨rfl, hs⟩⟩, fun fs hl => c2.trans (X0.ireturnOut hexec hret rfl (Or.inr (Or.inl rfl)) (hb hbytes d6) hl)⟩
  · have c2 : Steps p.tables e below (s₁.setTop (entryFrame m #[.ref x, .ref y] 3)) (s₁.setTop (mkF m 8 #[.val (.ref x), .val (.ref y), .unset] [.ref y])) := c1.trans (by
      refine acmpYes X0.here hexec rfl (pc0 := 2) rfl (hb hbytes d2) rfl rfl rfl (by simp [acmp, hxy]) (by decide) rfl ?_
      refine XS.aloadN X0.here hexec rfl (hb hbytes d7) rfl rfl ?_
      exact Steps.refl _)
    obtain ⟨T3, X3, q3, st3⟩ := cinst X0 hexec hown (wk W (.classLink "java/lang/String" 10 "java/lang/String")) (hy.mv X0.warmed.alike hh0).1 (g := (mkF m 8 #[.val (.ref x), .val (.ref y), .unset] [.ref y])) rfl (rest := []) rfl (hb hbytes d8)
    have hh3 := q3.trans hh0
    have c4 : Steps p.tables e below (s₁.setTop (entryFrame m #[.ref x, .ref y] 3)) (T3.setTop (mkF m 15 #[.val (.ref x), .val (.ref y), .unset] [.ref y])) := (c2.trans (st3 _ (Steps.refl _))).trans (by
      refine XS.ifNo X3.here hexec rfl (hb hbytes d11) rfl (i0_eq_f (by decide)) ?_
      refine XS.aloadN X3.here hexec rfl (hb hbytes d14) rfl rfl ?_
      exact Steps.refl _)
    obtain ⟨T5, X5, q5, st5⟩ := cself X3 hexec hown (wk W (.classLink "java/lang/String" 10 "java/lang/String")) (hy.mv X3.warmed.alike hh3).1 (g := (mkF m 15 #[.val (.ref x), .val (.ref y), .unset] [.ref y])) rfl (rest := []) rfl (hb hbytes d15)
    have hh5 := q5.trans hh3
    have c6 : Steps p.tables e below (s₁.setTop (entryFrame m #[.ref x, .ref y] 3)) (T5.setTop (mkF m 19 #[.val (.ref x), .val (.ref y), .val (.ref y)] [])) := (c4.trans (st5 _ (Steps.refl _))).trans (by
      refine XS.astoreN X5.here hexec rfl (hb hbytes d18) rfl rfl rfl ?_
      exact Steps.refl _)
    obtain ⟨T7, X7, q7, st7⟩ := X5.sget hexec hown (wk W (.fieldLink "java/lang/String" 38 "java/lang/String" "COMPACT_STRINGS" "Z")) s1 (fun _ _ h => by rw [hh5]; exact h) (g := (mkF m 19 #[.val (.ref x), .val (.ref y), .val (.ref y)] [])) rfl (hb hbytes d19)
    have hh7 := q7.trans hh5
    have c8 : Steps p.tables e below (s₁.setTop (entryFrame m #[.ref x, .ref y] 3)) (T7.setTop (mkF m 26 #[.val (.ref x), .val (.ref y), .val (.ref y)] [.ref x])) := (c6.trans (st7 _ (Steps.refl _))).trans (by
      refine XS.ifNo X7.here hexec rfl (hb hbytes d22) rfl (i0_eq_f hz) ?_
      refine XS.aloadN X7.here hexec rfl (hb hbytes d25) rfl rfl ?_
      exact Steps.refl _)
    obtain ⟨T9, X9, q9, st9⟩ := X7.hget hexec hown (wk W (.fieldLink "java/lang/String" 15 "java/lang/String" "coder" "B")) (hx.mv X7.warmed.alike hh7).2.2.1 (g := (mkF m 26 #[.val (.ref x), .val (.ref y), .val (.ref y)] [.ref x])) rfl (rest := []) rfl (hb hbytes d26)
    have hh9 := q9.trans hh7
    have c10 : Steps p.tables e below (s₁.setTop (entryFrame m #[.ref x, .ref y] 3)) (T9.setTop (mkF m 30 #[.val (.ref x), .val (.ref y), .val (.ref y)] [.ref y, .int cd])) := (c8.trans (st9 _ (Steps.refl _))).trans (by
      refine XS.aloadN X9.here hexec rfl (hb hbytes d29) rfl rfl ?_
      exact Steps.refl _)
    obtain ⟨T11, X11, q11, st11⟩ := X9.hget hexec hown (wk W (.fieldLink "java/lang/String" 15 "java/lang/String" "coder" "B")) (hy.mv X9.warmed.alike hh9).2.2.1 (g := (mkF m 30 #[.val (.ref x), .val (.ref y), .val (.ref y)] [.ref y, .int cd])) rfl (rest := [.int cd]) rfl (hb hbytes d30)
    have hh11 := q11.trans hh9
    have c12 : Steps p.tables e below (s₁.setTop (entryFrame m #[.ref x, .ref y] 3)) (T11.setTop (mkF m 33 #[.val (.ref x), .val (.ref y), .val (.ref y)] [.int cd', .int cd])) := c10.trans (st11 _ (Steps.refl _))
    by_cases hcd : cd = cd'
    · subst hcd
      have c13 : Steps p.tables e below (s₁.setTop (entryFrame m #[.ref x, .ref y] 3)) (T11.setTop (mkF m 37 #[.val (.ref x), .val (.ref y), .val (.ref y)] [.ref x])) := c12.trans (by
        refine XS.icmpNo X11.here hexec rfl (hb hbytes d33) rfl (ii_ne_f rfl) ?_
        refine XS.aloadN X11.here hexec rfl (hb hbytes d36) rfl rfl ?_
        exact Steps.refl _)
      obtain ⟨T14, X14, q14, st14⟩ := X11.hget hexec hown (wk W (.fieldLink "java/lang/String" 9 "java/lang/String" "value" "[B")) (hx.mv X11.warmed.alike hh11).2.1 (g := (mkF m 37 #[.val (.ref x), .val (.ref y), .val (.ref y)] [.ref x])) rfl (rest := []) rfl (hb hbytes d37)
      have hh14 := q14.trans hh11
      have c15 : Steps p.tables e below (s₁.setTop (entryFrame m #[.ref x, .ref y] 3)) (T14.setTop (mkF m 41 #[.val (.ref x), .val (.ref y), .val (.ref y)] [.ref y, .ref t])) := (c13.trans (st14 _ (Steps.refl _))).trans (by
        refine XS.aloadN X14.here hexec rfl (hb hbytes d40) rfl rfl ?_
        exact Steps.refl _)
      obtain ⟨T16, X16, q16, st16⟩ := X14.hget hexec hown (wk W (.fieldLink "java/lang/String" 9 "java/lang/String" "value" "[B")) (hy.mv X14.warmed.alike hh14).2.1 (g := (mkF m 41 #[.val (.ref x), .val (.ref y), .val (.ref y)] [.ref y, .ref t])) rfl (rest := [.ref t]) rfl (hb hbytes d41)
      have hh16 := q16.trans hh14
      have c17 : Steps p.tables e below (s₁.setTop (entryFrame m #[.ref x, .ref y] 3)) (T16.setTop (mkF m 44 #[.val (.ref x), .val (.ref y), .val (.ref y)] [.ref t', .ref t])) := c15.trans (st16 _ (Steps.refl _))
      obtain ⟨v18, T18, X18, E18, g18⟩ := X16.callS hexec (LEq.law l t V t' V') hown (wks W (staticW "java/lang/String" 541 LEq.yN)) (wk W LEq.tab) (W := 0) (Nat.le_of_ble_eq_true rfl) (Nat.le_of_ble_eq_true rfl) (Nat.le_refl _) (Nat.le_refl _) (g := (mkF m 44 #[.val (.ref x), .val (.ref y), .val (.ref y)] [.ref t', .ref t])) rfl (by rw [hml]; rfl) c17 (argsL := [.ref t, .ref t']) (rest := []) rfl rfl (by show 2 * 0 + 0 ≤ _; decide) (hb hbytes d44) (⟨rfl, hx.2.2.2.1.mv X16.warmed.alike hh16, hx.2.2.2.2.1.ty, hy.2.2.2.1.mv X16.warmed.alike hh16, hy.2.2.2.2.1.ty⟩)
      obtain ⟨v, rfl, q18, hv⟩ := E18
      have iff := Cod.eqv hx.2.2.2.2.1 hy.2.2.2.2.1 hx.2.2.2.2.2 hy.2.2.2.2.2
      rcases hv with ⟨rfl, he⟩ | ⟨rfl, he⟩
      · have c19 : Steps p.tables e below (s₁.setTop (entryFrame m #[.ref x, .ref y] 3)) (T18.setTop (mkF m 55 #[.val (.ref x), .val (.ref y), .val (.ref y)] [.int 1])) := Steps.trans g18 (by
          refine XS.ifNo X18.here hexec rfl (hb hbytes d47) rfl (i0_eq_f (by decide)) ?_
          refine iconstV X18.here hexec rfl 1 (hb hbytes d50) (by decide) ?_
          refine XS.goto X18.here hexec rfl (pc0 := 51) rfl (hb hbytes d51) (by decide) rfl ?_
          exact Steps.refl _)
        exact ⟨T18, some (.int 1), _, _, _, X18, rfl, rfl, rfl, (fun h => by cases h), ⟨1, rfl, q18.trans hh16, Or.inl ⟨rfl, iff.mp he⟩⟩, fun fs hl => c19.trans (X18.ireturnOut hexec hret rfl (Or.inr (Or.inl rfl)) (hb hbytes d55) hl)⟩
      · have c19 : Steps p.tables e below (s₁.setTop (entryFrame m #[.ref x, .ref y] 3)) (T18.setTop (mkF m 55 #[.val (.ref x), .val (.ref y), .val (.ref y)] [.int 0])) := Steps.trans g18 (by
          refine XS.ifYes X18.here hexec rfl (pc0 := 47) rfl (hb hbytes d47) rfl (i0_eq_t rfl) (by decide) rfl ?_
          refine iconstV X18.here hexec rfl 0 (hb hbytes d54) (by decide) ?_
          exact Steps.refl _)
        exact ⟨T18, some (.int 0), _, _, _, X18, rfl, rfl, rfl, (fun h => by cases h), ⟨0, rfl, q18.trans hh16, Or.inr ⟨rfl, fun q => he (iff.mpr q)⟩⟩, fun fs hl => c19.trans (X18.ireturnOut hexec hret rfl (Or.inr (Or.inl rfl)) (hb hbytes d55) hl)⟩
    · have c13 : Steps p.tables e below (s₁.setTop (entryFrame m #[.ref x, .ref y] 3)) (T11.setTop (mkF m 55 #[.val (.ref x), .val (.ref y), .val (.ref y)] [.int 0])) := c12.trans (by
        refine XS.icmpYes X11.here hexec rfl (pc0 := 33) rfl (hb hbytes d33) rfl (ii_ne_t hcd) (by decide) rfl ?_
        refine iconstV X11.here hexec rfl 0 (hb hbytes d54) (by decide) ?_
        exact Steps.refl _)
      exact ⟨T11, some (.int 0), _, _, _, X11, rfl, rfl, rfl, (fun h => by cases h), ⟨0, rfl, hh11, Or.inr ⟨rfl, Cod.dif hx.2.2.2.2.1 hy.2.2.2.2.1 hcd⟩⟩, fun fs hl => c13.trans (X11.ireturnOut hexec hret rfl (Or.inr (Or.inl rfl)) (hb hbytes d55) hl)⟩
theorem pays {l : Launch} {R : Room} {p : Program} {e : Env} {below : List Frame} {s : State} {sargs : Array Value} {len W : Nat} (x t : Addr) (V : Cell) (cd : Int32) (n : Nat) (f : Nat → Int32) (y t' : Addr) (V' : Cell) (cd' : Int32) (k : Nat) (g : Nat → Int32) (z : Int32) (htab : tab.before sargs s = true) (hfr : 2 ≤ R.frames) (hlo : W + 28 ≤ R.locals) :
    Back l R p e below s sargs yN len W (fun A₁ a₁ => A₁.cells + 0 ≤ R.cells ∧ A₁.slots + 0 ≤ R.slots ∧ P x t V cd n f y t' V' cd' k g z a₁ A₁.U) (fun A₁ _ v₁ B₁ => Says01 (SameT n f k g) v₁ A₁.U B₁.U ∧ B₁.locs = A₁.locs ++ [] ∧ B₁.cells = A₁.cells + 0 ∧ B₁.slots = A₁.slots + 0) :=
  (law l x t V cd n f y t' V' cd' k g z).pays htab hfr (by omega)
end SEq
end StrChars
namespace StrChars.Road
open Jvm Sem ClassFile Op Lib Jvm.Stand Jvm.Free Jvm.Free.XT
open Jvm.Lib.Cold (StaticIs)
/-- the words of String.equals(Object) -/
abbrev wordsEq : List Jvm.Cond := [.code SEq.yN SEq.yB 3 (some .boolean), .initialized ST, .classLink ST 10 ST, .fieldLink ST 38 ST "COMPACT_STRINGS" "Z", .fieldLink ST 15 ST "coder" "B", .fieldLink ST 9 ST "value" "[B", .methodLink ST 541 LEq.yN, .static LEq.yN, .code LEq.yN LEq.yB 3 (some .boolean), .initialized "java/lang/StringLatin1"]
theorem tabEq_of {a : Array Value} {s : State} (h : ∀ w ∈ wordsEq, w.before a s = true) : SEq.tab.before a s = true := by
  have hl : LEq.tab.before a s = true := unparts (wk h (.code LEq.yN LEq.yB 3 (some .boolean))) (wks h (.initialized LEq.yN.cls :: LEq.site))
  have q := consq hl h
  exact unparts (wk q (.code SEq.yN SEq.yB 3 (some .boolean))) (wks q (.initialized SEq.yN.cls :: SEq.site))
theorem movedEq {Z s : State} {a0 args : Array Value} (hZ : Z.Warmed39 s.vm) (hw : ∀ d ∈ wordsEq, d.before a0 Z = true) : ∀ d ∈ wordsEq, d.before args s = true := fun d hd => by
  have t : ∀ d ∈ wordsEq, (d.onTables && d.keepsFace) = true := by decide +kernel
  exact RoadKit.mv hZ (hw d hd) (t d hd)
/-- the road's facts of a String, as the laws ask it -/
theorem txt_of {Z U : State} {a0 : Array Value} {kI : Nat} (wi : (Jvm.Cond.instantiable ST kI).before a0 Z = true) (al : Z.vm.Alike U.vm) {x t : Addr} {kb : ClassId} {cs : List Int32} {cd N2 : Int32} {vs : List Value} (E : RoadKit.Exa Z U.heap x ST) (V : RoadKit.Fld Z U.heap x ST "value" "[B" (.ref t)) (C : RoadKit.Fld Z U.heap x ST "coder" "B" (.int cd)) (K : RoadKit.Arv Z U.heap t kb .byte N2 vs (.int 0)) (hc : CodA cs cd N2 vs) (hb : ∀ c ∈ cs, ¬ c < 0 ∧ ¬ (65535 : Int32) < c) (l2 : cs.length ≤ 4000) :
    ∃ A, Txt x t A cd cs.length (fun j => cs.getD j 0) U := by
  obtain ⟨A, K1, K2, K3, K4, K5, K6⟩ := K
  have hcod := hc.cod (by omega) K3 K5
  obtain ⟨D, fV, fC, hB, F1, F2, g1, g2, -, -⟩ := strObj wi al E V C
  exact ⟨A, ⟨_, hB.2.2.1, D, hB.1, rfl, by cases q : D.vm <;> first | rfl | exact absurd q (hB.2.1.2 _)⟩, Has.of hB F1 g1, Has.of hB F2 g2, ⟨K1.1, State.isArrayOf_alike al K1.2.1, K1.2.2, by rcases hcod with ⟨-, q, -⟩ | ⟨-, q, -⟩ <;> omega⟩, hcod, fun j hj => by
    have e : cs.getD j 0 = cs[j] := by simp [List.getD_eq_getElem?_getD, hj]
    show ¬ cs.getD j 0 < 0 ∧ ¬ 65535 < cs.getD j 0
    rw [e]; exact hb _ (List.getElem_mem _)⟩
theorem same_list (cs ds : List Int32) : SameT cs.length (fun j => cs.getD j 0) ds.length (fun j => ds.getD j 0) ↔ cs = ds := by
  constructor
  · rintro ⟨e, q⟩
    refine List.ext_getElem e fun j h1 h2 => ?_
    have := q j h1
    simpa [List.getD_eq_getElem?_getD, h1, h2] using this
  · rintro rfl
    exact ⟨rfl, fun _ _ => rfl⟩
/-- **equals(Object) OF TWO SUCH STRINGS**: 1 just where the chars are the same -/
theorem eqW {p : Program} {l : Launch} {e : Env} {R : Room} {s : State} {args : Array Value} {below : List Frame} {len W : Nat} {Z : State} {a0 : Array Value} {h : Heap} (hZ : Z.Warmed39 s.vm) (hw : ∀ d ∈ wordsEq, d.before a0 Z = true) {kI : Nat} (wi : (Jvm.Cond.instantiable ST kI).before a0 Z = true)
    {x t : Addr} {kb : ClassId} {cs : List Int32} {cd N2 : Int32} {vs : List Value} (E : RoadKit.Exa Z h x ST) (V : RoadKit.Fld Z h x ST "value" "[B" (.ref t)) (C : RoadKit.Fld Z h x ST "coder" "B" (.int cd)) (K : RoadKit.Arv Z h t kb .byte N2 vs (.int 0)) (hc : CodA cs cd N2 vs) (hb : ∀ c ∈ cs, ¬ c < 0 ∧ ¬ (65535 : Int32) < c) (l2 : cs.length ≤ 4000)
    {y t' : Addr} {kb' : ClassId} {ds : List Int32} {cd' N2' : Int32} {vs' : List Value} (E' : RoadKit.Exa Z h y ST) (V' : RoadKit.Fld Z h y ST "value" "[B" (.ref t')) (C' : RoadKit.Fld Z h y ST "coder" "B" (.int cd')) (K' : RoadKit.Arv Z h t' kb' .byte N2' vs' (.int 0)) (hc' : CodA ds cd' N2' vs') (hb' : ∀ c ∈ ds, ¬ c < 0 ∧ ¬ (65535 : Int32) < c) (l2' : ds.length ≤ 4000)
    {z : Int32} (S : RoadKit.Sta Z h ST "COMPACT_STRINGS" "Z" (.int z)) (hz : ¬ z = 0) (hfr : 2 ≤ R.frames) (hlo : W + 28 ≤ R.locals) :
    Back l R p e below s args (⟨"java/lang/String", "equals", "(Ljava/lang/Object;)Z"⟩ : MethodName) len W (fun P a => a = #[.ref x, .ref y] ∧ P.U.heap = h ∧ P.cells + 0 ≤ R.cells ∧ P.slots + 0 ≤ R.slots)
      (fun P _ v B => ∃ L, (((v = some (.int 1) ∧ cs = ds) ∨ (v = some (.int 0) ∧ ¬ cs = ds)) ∧ L = [] ∧ B.U.heap = h) ∧ B.locs = P.locs ++ L ∧ B.cells = P.cells + 0 ∧ B.slots = P.slots + 0) := by
  intro m meth c P g ig mk a X hg hsize hdg hW hn hp'
  obtain ⟨rfl, rfl, r1, r2⟩ := hp'
  have al : Z.vm.Alike P.U.vm := hZ.alike.trans X.warmed.alike
  obtain ⟨A, hx⟩ := txt_of wi al E V C K hc hb l2
  obtain ⟨A', hy⟩ := txt_of wi al E' V' C' K' hc' hb' l2'
  obtain ⟨v, B, X', ⟨⟨w, hv, hh, hq⟩, hl, hk, hs⟩, st⟩ := SEq.pays x t A cd cs.length (fun j => cs.getD j 0) y t' A' cd' ds.length (fun j => ds.getD j 0) z (tabEq_of (movedEq hZ hw)) hfr hlo m meth c P g ig mk _ X hg hsize hdg hW hn ⟨r1, r2, rfl, hx, hy, sta_is al S, hz⟩
  refine ⟨v, B, X', ⟨[], ⟨?_, rfl, hh⟩, hl, hk, hs⟩, st⟩
  rcases hq with ⟨rfl, q⟩ | ⟨rfl, q⟩
  · exact Or.inl ⟨hv, (same_list cs ds).mp q⟩
  · exact Or.inr ⟨hv, fun e => q ((same_list cs ds).mpr e)⟩
end StrChars.Road
namespace StrChars.Road
open Jvm Sem ClassFile Op Lib Jvm.Stand Jvm.Free Jvm.Free.XT
open Jvm.Lib.Cold (StaticIs)
/-- what backV says of its String, as the contracts of this text ask it: cs's low bytes, coder 0 -/
theorem codOf {cs : List Int32} {n : Nat} (hn : cs.length = n) (hb : ∀ c ∈ cs, ¬ 255 < c) : CodA cs 0 (Int32.ofNat n) ((cs.map lo8).map Value.int) := Or.inl ⟨rfl, by rw [hn], by simp [List.map_map, Function.comp_def], hb⟩
end StrChars.Road
end Jvm.Pilot.@@N@@

namespace Jvm.Pilot.@@N@@
open Jvm Jvm.ClassFile Sem Op Lib Jvm.Free Jvm.Stand Jvm.LawKit Jvm.RoadKit Bundle Jvm.Pilot.@@N@@.Jvm.D
section OwnKit
variable {p : Program} {l : Launch} {e : Env} {R : Room} {s : State} {m : MethodId} {args : Array Value} {below : List Frame} {meth : Method} {c : Code} {T : State} {locs : List Loc} {cells slots : Nat}
def own_Go (p : Program) (e : Env) (below : List Frame) (P : Outcome → State → Prop) (U : State) : Prop := ∃ s₂ o, Steps p.tables e below U s₂ ∧ s₂.status = .running ∧ Ended s₂ below o ∧ P o s₂
abbrev own_Post (s : State) (Q : Option Value → Heap → List Loc → Prop) (K N : Nat) : Outcome → State → Prop := fun o U => ∃ v L, o = .returned v ∧ Q v U.heap L ∧ FrameEnd s o U L K N
theorem own_to {P : Outcome → State → Prop} {U V : State} (k : own_Go p e below P V) (h : ∀ t, Steps p.tables e below V t → Steps p.tables e below U t) : own_Go p e below P U := by
  obtain ⟨s₂, o, a, r⟩ := k
  exact ⟨s₂, o, h _ a, r⟩
theorem own_start {U : State} {K N : Nat} (Q : Option Value → Heap → List Loc → Prop) (k : own_Go p e below (own_Post s Q K N) U) : ∃ s₂ o, Steps p.tables e below U s₂ ∧ s₂.status = .running ∧ Ended s₂ below o ∧ ∃ v L, o = .returned v ∧ Q v s₂.heap L ∧ FrameEnd s o s₂ L K N := k
theorem own_irem {tb : Tables} [Ours tb] {e : Env} {below : List Frame} {T target : State} {m : MethodId} {c : Code} {g : JFrame} (h : At T m c below) (hx : tb.exec = Jvm.exec) (hg : g.method = m) {x y : Int32} {rest : List Value} (hd : decode c.code g.pc = .ok (.irem, 1)) (hs : g.stack = .int y :: .int x :: rest) (hy : y ≠ 0)
    (hr : Steps tb e below (T.setTop { g with pc := g.pc + 1, stack := .int (x % y) :: rest }) target) : Steps tb e below (T.setTop g) target := by
  refine XS.irem h hx hg hd hs hy ?_
  have q : x - x / y * y = x % y := Jvm.irem_eq_mod x y
  rw [q]; exact hr
section Out
variable {Q : Option Value → Heap → List Loc → Prop} {K N : Nat}
theorem own_out (X : Stand p l e R s m args below meth c T locs cells slots) {v : Option Value} (hv : meth.sig.returnType = none → v = none) (hlk : meth.locks = false) {g : JFrame}
    (st : ∀ fs, (∀ (f : JFrame) (acts : List Action), f.method = m → f.locked = none → f.entered = [] → (doReturn e (T.setTop f) acts v).1 = T.setFrames fs) → Steps p.tables e below (T.setTop g) (T.setFrames fs)) (hq : Q v T.heap locs) (hk : cells ≤ K) (hn : slots ≤ N) : own_Go p e below (own_Post s Q K N) (T.setTop g) := by
  obtain ⟨fs, hr, hrun, hended, hW, hsame⟩ := X.leave (v := v) hv hlk
  exact ⟨_, _, st fs hr, hrun, hended, v, locs, rfl, hq, ⟨_, rfl⟩, hW, hsame.mono hk hn⟩
theorem own_retN (X : Stand p l e R s m args below meth c T locs cells slots) (hx : p.tables.exec = Jvm.exec) {pc : Nat} {Ls : Array Slot} {z w : Int32} {t : FieldType} {rest : List Value} (hret : meth.sig.returnType = some t) (ht : t = .boolean ∨ t = .byte ∨ t = .char ∨ t = .short) (hn' : nar t z = w) (hlk : meth.locks = false)
    (hd : decode c.code pc = .ok (.ireturn, 1)) (hq : Q (some (.int w)) T.heap locs) (hk : cells ≤ K) (hn : slots ≤ N) : own_Go p e below (own_Post s Q K N) (T.setTop (mkF m pc Ls (.int z :: rest))) := by
  subst hn'
  exact own_out X (fun h => by rw [hret] at h; cases h) hlk (fun fs hr => retN X hx hret ht hd hr) hq hk hn
theorem own_retI (X : Stand p l e R s m args below meth c T locs cells slots) (hx : p.tables.exec = Jvm.exec) {pc : Nat} {Ls : Array Slot} {z : Int32} {rest : List Value} (hret : meth.sig.returnType = some .int) (hlk : meth.locks = false)
    (hd : decode c.code pc = .ok (.ireturn, 1)) (hq : Q (some (.int z)) T.heap locs) (hk : cells ≤ K) (hn : slots ≤ N) : own_Go p e below (own_Post s Q K N) (T.setTop (mkF m pc Ls (.int z :: rest))) :=
  own_out X (fun h => by rw [hret] at h; cases h) hlk (fun fs hr => retOut X hx hret rfl (Or.inl ⟨rfl, Or.inl rfl, _, rfl⟩) hd hr) hq hk hn
theorem own_retJ (X : Stand p l e R s m args below meth c T locs cells slots) (hx : p.tables.exec = Jvm.exec) {pc : Nat} {Ls : Array Slot} {z : Int64} {rest : List Value} (hret : meth.sig.returnType = some .long) (hlk : meth.locks = false)
    (hd : decode c.code pc = .ok (.lreturn, 1)) (hq : Q (some (.long z)) T.heap locs) (hk : cells ≤ K) (hn : slots ≤ N) : own_Go p e below (own_Post s Q K N) (T.setTop (mkF m pc Ls (.long z :: rest))) :=
  own_out X (fun h => by rw [hret] at h; cases h) hlk (fun fs hr => retOut X hx hret rfl (Or.inr (Or.inl ⟨rfl, rfl, _, rfl⟩)) hd hr) hq hk hn
theorem own_retR (X : Stand p l e R s m args below meth c T locs cells slots) (hx : p.tables.exec = Jvm.exec) {pc : Nat} {Ls : Array Slot} {w : Value} {t : FieldType} {rest : List Value} (hret : meth.sig.returnType = some t) (ht : t.isReference = true) (hw : w.isRef = true) (hlk : meth.locks = false)
    (hd : decode c.code pc = .ok (.areturn, 1)) (hq : Q (some w) T.heap locs) (hk : cells ≤ K) (hn : slots ≤ N) : own_Go p e below (own_Post s Q K N) (T.setTop (mkF m pc Ls (w :: rest))) :=
  own_out X (fun h => by rw [hret] at h; cases h) hlk (fun fs hr => retOut X hx hret (by cases t <;> first | (cases ht; done) | (cases w <;> first | rfl | (cases hw; done))) (Or.inr (Or.inr (Or.inr (Or.inr ⟨rfl, ht, hw⟩)))) hd hr) hq hk hn
theorem own_retV (X : Stand p l e R s m args below meth c T locs cells slots) (hx : p.tables.exec = Jvm.exec) {pc : Nat} {Ls : Array Slot} (hret : meth.sig.returnType = none) (hlk : meth.locks = false)
    (hd : decode c.code pc = .ok (.return_, 1)) (hq : Q none T.heap locs) (hk : cells ≤ K) (hn : slots ≤ N) : own_Go p e below (own_Post s Q K N) (T.setTop (mkF m pc Ls [])) :=
  own_out X (fun _ => rfl) hlk (fun fs hr => X.returnOut hx hret hd hr) hq hk hn
end Out
abbrev own_PostW (s : State) (Q : Option Value → Heap → List Loc → Prop) (K N : Nat) : Outcome → State → Prop := fun o U => ∃ v L, o = .returned v ∧ Q v U.heap L ∧ ReturnedEndW s o U L K N
theorem own_startW {U : State} {K N : Nat} (Q : Option Value → Heap → List Loc → Prop) (k : own_Go p e below (own_PostW s Q K N) U) : ∃ s₂ o, Steps p.tables e below U s₂ ∧ s₂.status = .running ∧ Ended s₂ below o ∧ ∃ v L, o = .returned v ∧ Q v s₂.heap L ∧ ReturnedEndW s o s₂ L K N := k
section OutW
variable {Q : Option Value → Heap → List Loc → Prop} {K N k0 : Nat} {vm0 : Vm}
theorem own_outW (X : Stand p l e R (s.setVm vm0) m args below meth c T locs cells slots) (hS : s.Since vm0 k0) (hk0 : k0 ≤ T.heap.size) {v : Option Value} (hv : meth.sig.returnType = none → v = none) (hlk : meth.locks = false) {g : JFrame}
    (st : ∀ fs, (∀ (f : JFrame) (acts : List Action), f.method = m → f.locked = none → f.entered = [] → (doReturn e (T.setTop f) acts v).1 = T.setFrames fs) → Steps p.tables e below (T.setTop g) (T.setFrames fs)) (hq : Q v T.heap locs) (hk : cells ≤ K) (hn : slots ≤ N) : own_Go p e below (own_PostW s Q K N) (T.setTop g) := by
  obtain ⟨fs, hr, hrun, hended, h1, h2, h3, hsame⟩ := X.leaveW hS hk0 (v := v) hv hlk
  exact ⟨_, _, st fs hr, hrun, hended, v, locs, rfl, hq, h1, h2, h3, hsame.mono hk hn⟩
theorem own_retNW (X : Stand p l e R (s.setVm vm0) m args below meth c T locs cells slots) (hx : p.tables.exec = Jvm.exec) (hS : s.Since vm0 k0) (hk0 : k0 ≤ T.heap.size) {pc : Nat} {Ls : Array Slot} {z w : Int32} {t : FieldType} {rest : List Value} (hret : meth.sig.returnType = some t) (ht : t = .boolean ∨ t = .byte ∨ t = .char ∨ t = .short) (hn' : nar t z = w) (hlk : meth.locks = false)
    (hd : decode c.code pc = .ok (.ireturn, 1)) (hq : Q (some (.int w)) T.heap locs) (hk : cells ≤ K) (hn : slots ≤ N) : own_Go p e below (own_PostW s Q K N) (T.setTop (mkF m pc Ls (.int z :: rest))) := by
  subst hn'
  exact own_outW X hS hk0 (fun h => by rw [hret] at h; cases h) hlk (fun fs hr => retN X hx hret ht hd hr) hq hk hn
theorem own_retIW (X : Stand p l e R (s.setVm vm0) m args below meth c T locs cells slots) (hx : p.tables.exec = Jvm.exec) (hS : s.Since vm0 k0) (hk0 : k0 ≤ T.heap.size) {pc : Nat} {Ls : Array Slot} {z : Int32} {rest : List Value} (hret : meth.sig.returnType = some .int) (hlk : meth.locks = false)
    (hd : decode c.code pc = .ok (.ireturn, 1)) (hq : Q (some (.int z)) T.heap locs) (hk : cells ≤ K) (hn : slots ≤ N) : own_Go p e below (own_PostW s Q K N) (T.setTop (mkF m pc Ls (.int z :: rest))) :=
  own_outW X hS hk0 (fun h => by rw [hret] at h; cases h) hlk (fun fs hr => retOut X hx hret rfl (Or.inl ⟨rfl, Or.inl rfl, _, rfl⟩) hd hr) hq hk hn
theorem own_retRW (X : Stand p l e R (s.setVm vm0) m args below meth c T locs cells slots) (hx : p.tables.exec = Jvm.exec) (hS : s.Since vm0 k0) (hk0 : k0 ≤ T.heap.size) {pc : Nat} {Ls : Array Slot} {w : Value} {t : FieldType} {rest : List Value} (hret : meth.sig.returnType = some t) (ht : t.isReference = true) (hw : w.isRef = true) (hlk : meth.locks = false)
    (hd : decode c.code pc = .ok (.areturn, 1)) (hq : Q (some w) T.heap locs) (hk : cells ≤ K) (hn : slots ≤ N) : own_Go p e below (own_PostW s Q K N) (T.setTop (mkF m pc Ls (w :: rest))) :=
  own_outW X hS hk0 (fun h => by rw [hret] at h; cases h) hlk (fun fs hr => retOut X hx hret (by cases t <;> first | (cases ht; done) | (cases w <;> first | rfl | (cases hw; done))) (Or.inr (Or.inr (Or.inr (Or.inr ⟨rfl, ht, hw⟩)))) hd hr) hq hk hn
theorem own_retVW (X : Stand p l e R (s.setVm vm0) m args below meth c T locs cells slots) (hx : p.tables.exec = Jvm.exec) (hS : s.Since vm0 k0) (hk0 : k0 ≤ T.heap.size) {pc : Nat} {Ls : Array Slot} (hret : meth.sig.returnType = none) (hlk : meth.locks = false)
    (hd : decode c.code pc = .ok (.return_, 1)) (hq : Q none T.heap locs) (hk : cells ≤ K) (hn : slots ≤ N) : own_Go p e below (own_PostW s Q K N) (T.setTop (mkF m pc Ls [])) :=
  own_outW X hS hk0 (fun _ => rfl) hlk (fun fs hr => X.returnOut hx hret hd hr) hq hk hn
end OutW
theorem own_ole {Z : State} {n0 : Nat} {h : Heap} (X : Old Z n0 h) : n0 ≤ h.size := X.1 ▸ X.2.1
theorem own_hk {T : State} {h : Heap} {k0 : Nat} (e : T.heap = h) (q : k0 ≤ h.size) : k0 ≤ T.heap.size := Nat.le_trans q (Nat.le_of_eq (congrArg Array.size e.symm))
theorem own_lat2 {cs : List Int32} (h : ∀ c ∈ cs, ¬ c < 0 ∧ ¬ (255 : Int32) < c) : ∀ c ∈ cs, ¬ (255 : Int32) < c := fun c hc => (h c hc).2
theorem own_nm0 {a : Addr} : a ∉ ([] : List Addr) := List.not_mem_nil
theorem own_nmS {a b : Addr} {L : List Addr} (h : a ≠ b) (r : a ∉ L) : a ∉ b :: L := fun q => (List.mem_cons.mp q).elim h r
theorem own_cat {v : Value} (h : v.isRef = true) : v.category = 1 := by cases v <;> first | rfl | (cases h; done)
theorem own_narR {v : Value} {C : String} (h : v.isRef = true) : narrow (.object C) v = v := by cases v <;> first | rfl | (cases h; done)
theorem own_fitR {v : Value} {C : String} (h : v.isRef = true) : fits (.object C) v = true := by cases v <;> first | rfl | (cases h; done)
theorem own_all0 {P : Int32 → Prop} : ∀ x ∈ ([] : List Int32), P x := fun _ q => nomatch q
theorem own_allS {P : Int32 → Prop} {y : Int32} {L : List Int32} (q : P y) (r : ∀ x ∈ L, P x) : ∀ x ∈ y :: L, P x := fun x z => (List.mem_cons.mp z).elim (fun u => u ▸ q) (r x)
theorem own_i2c_rng (x : Int32) : ¬ x.toUInt32.toUInt16.toUInt32.toInt32 < 0 ∧ ¬ (65535 : Int32) < x.toUInt32.toUInt16.toUInt32.toInt32 := by
  have q := c_i2c x
  have e1 : (65535 : Int32).toInt = 65535 := rfl
  have e0 : (0 : Int32).toInt = 0 := rfl
  simp only [Int32.lt_iff_toInt_lt, e1, e0]
  omega
theorem own_and255 (x : Int32) : ¬ (x &&& (255 : Int32)).toUInt32.toUInt16.toUInt32.toInt32 < 0 ∧ ¬ (255 : Int32) < (x &&& (255 : Int32)).toUInt32.toUInt16.toUInt32.toInt32 := by
  rw [i2c_mask]
  have q := c_and x 255 (by decide)
  have e1 : (255 : Int32).toInt = 255 := rfl
  have e0 : (0 : Int32).toInt = 0 := rfl
  simp only [Int32.lt_iff_toInt_lt, e1, e0] at q ⊢
  omega
theorem own_up {x : Int32} (h : ¬ x < 0 ∧ ¬ (255 : Int32) < x) : ¬ x < 0 ∧ ¬ (65535 : Int32) < x := by
  have e1 : (255 : Int32).toInt = 255 := rfl
  have e2 : (65535 : Int32).toInt = 65535 := rfl
  have e0 : (0 : Int32).toInt = 0 := rfl
  simp only [Int32.lt_iff_toInt_lt, e1, e2, e0] at h ⊢
  omega
theorem own_i2c_id {x : Int32} (h : ¬ x < 0 ∧ ¬ (65535 : Int32) < x) : x.toUInt32.toUInt16.toUInt32.toInt32 = x := by
  have q := c_i2c x
  have e2 : (65535 : Int32).toInt = 65535 := rfl
  have e0 : (0 : Int32).toInt = 0 := rfl
  simp only [Int32.lt_iff_toInt_lt, e2, e0] at h
  apply Int32.toInt_inj.mp
  omega
theorem own_narC {x : Int32} (h : ¬ x < 0 ∧ ¬ (65535 : Int32) < x) : nar .char x = x := own_i2c_id h
theorem own_fitC {x : Int32} (h : ¬ x < 0 ∧ ¬ (65535 : Int32) < x) : fits .char (.int x) = true := by rw [← own_narC h]; exact fits_nar_char x
theorem own_narB {x : Int32} : nar .byte (x.toInt8.toInt32) = x.toInt8.toInt32 := by
  have h : ∀ y : Int8, y.toInt32.toInt8 = y := fun y => by simp
  show (x.toInt8.toInt32).toInt8.toInt32 = _
  rw [h]
theorem own_narZ {x : Int32} (h : x = 0 ∨ x = 1) : nar .boolean x = x := by rcases h with rfl | rfl <;> rfl
/-- a String that spells the chars cs; its bytes lie in the array u -/
def own_Str (Z : State) (h : Heap) (a u : Addr) (cs : List Int32) : Prop := Exa Z h a "java/lang/String" ∧ ∃ (cd N : Int32) (k : ClassId) (vs : List Value), Fld Z h a "java/lang/String" "value" "[B" (.ref u) ∧ Fld Z h a "java/lang/String" "coder" "B" (.int cd) ∧ Arv Z h u k .byte N vs (.int 0) ∧ StrChars.Road.CodA cs cd N vs ∧ (∀ c ∈ cs, ¬ c < 0 ∧ ¬ (65535 : Int32) < c) ∧ cs.length ≤ 4000
section Str
variable {Z : State} {h h' : Heap} {a u b : Addr} {cs : List Int32} {ws : List Addr} {sl : Nat} {v : Value}
theorem own_Str.lt (F : own_Str Z h a u cs) : a < h.size := F.1.lt
theorem own_Str.lt2 (F : own_Str Z h a u cs) : u < h.size := by obtain ⟨_, _, _, _, _, _, _, K, _⟩ := F; exact K.lt
theorem own_Str.ext (F : own_Str Z h a u cs) (E : Ext h h') : own_Str Z h' a u cs := by
  obtain ⟨x, cd, N, k, vs, f1, f2, f3, r⟩ := F
  exact ⟨x.ext E, cd, N, k, vs, f1.ext E, f2.ext E, f3.ext E, r⟩
theorem own_Str.keep (F : own_Str Z h a u cs) (K : Keep h h' ws) (q : a ∉ ws) (q' : u ∉ ws) : own_Str Z h' a u cs := by
  obtain ⟨x, cd, N, k, vs, f1, f2, f3, r⟩ := F
  exact ⟨x.keep K, cd, N, k, vs, f1.keep K q, f2.keep K q, f3.keep K q', r⟩
theorem own_Str.wr (F : own_Str Z h a u cs) (W : Wr h h' b sl v) (q : a ≠ b) (q' : u ≠ b) : own_Str Z h' a u cs := by
  obtain ⟨x, cd, N, k, vs, f1, f2, f3, r⟩ := F
  exact ⟨x.wr W, cd, N, k, vs, f1.other W (Or.inl q), f2.other W (Or.inl q), f3.other W q', r⟩
theorem own_mkStr0 {k : ClassId} {N : Int32} (E : Exa Z h a "java/lang/String") (V : Fld Z h a "java/lang/String" "value" "[B" (.ref u)) (C : Fld Z h a "java/lang/String" "coder" "B" (.int 0)) (K : Arv Z h u k .byte N ((cs.map (fun c => c.toInt8.toInt32)).map Value.int) (.int 0)) (hN : N = Int32.ofNat cs.length) (hp : ∀ c ∈ cs, ¬ c < 0 ∧ ¬ (255 : Int32) < c) (l : cs.length ≤ 4000) : own_Str Z h a u cs :=
  ⟨E, 0, N, k, _, V, C, K, by rw [hN]; exact StrChars.Road.codOf rfl (fun c hc => (hp c hc).2), fun c hc => own_up (hp c hc), l⟩
theorem own_mkLit {k : ClassId} {N : Int32} {vs : List Value} (E : Exa Z h a "java/lang/String") (V : Fld Z h a "java/lang/String" "value" "[B" (.ref u)) (C : Fld Z h a "java/lang/String" "coder" "B" (.int 0)) (K : Arv Z h u k .byte N vs (.int 0)) (hN : N = Int32.ofNat cs.length) (hp : ∀ c ∈ cs, ¬ c < 0 ∧ ¬ (255 : Int32) < c) (hv : vs = cs.map (fun c => Value.int (StrChars.lo8 c))) (l : cs.length ≤ 4000) : own_Str Z h a u cs :=
  ⟨E, 0, N, k, vs, V, C, K, Or.inl ⟨rfl, hN, hv, fun c hc => (hp c hc).2⟩, fun c hc => own_up (hp c hc), l⟩
/-- what a String of signs up to 255 holds -/
theorem own_Str.latin (F : own_Str Z h a u cs) (hp : ∀ c ∈ cs, ¬ (255 : Int32) < c) : ∃ (N : Int32) (k : ClassId) (vs : List Value), Exa Z h a "java/lang/String" ∧ Fld Z h a "java/lang/String" "value" "[B" (.ref u) ∧ Fld Z h a "java/lang/String" "coder" "B" (.int 0) ∧ Arv Z h u k .byte N vs (.int 0) ∧ StrChars.Road.CodA cs 0 N vs ∧ (∀ c ∈ cs, ¬ c < 0 ∧ ¬ (65535 : Int32) < c) ∧ cs.length ≤ 4000 := by
  obtain ⟨x, cd, N, k, vs, f1, f2, f3, f4, f5, f6⟩ := F
  have e : cd = 0 := by
    rcases f4 with ⟨q, -⟩ | ⟨-, -, -, c, hc, hw⟩
    · exact q
    · exact absurd hw (hp c hc)
  subst e
  exact ⟨N, k, vs, x, f1, f2, f3, f4, f5, f6⟩
theorem own_Str.latinL (F : own_Str Z h a u cs) (hp : ∀ c ∈ cs, ¬ (255 : Int32) < c) : ∃ (k : ClassId), Exa Z h a "java/lang/String" ∧ Fld Z h a "java/lang/String" "value" "[B" (.ref u) ∧ Fld Z h a "java/lang/String" "coder" "B" (.int 0) ∧ Arv Z h u k .byte (Int32.ofNat cs.length) (cs.map (fun c => Value.int (StrChars.lo8 c))) (.int 0) ∧ (∀ c ∈ cs, ¬ c < 0 ∧ ¬ (65535 : Int32) < c) := by
  obtain ⟨x, cd, N, k, vs, f1, f2, f3, f4, f5, f6⟩ := F
  rcases f4 with ⟨q1, q2, q3, -⟩ | ⟨-, -, -, c, hc, hw⟩
  · subst q1 q2 q3
    exact ⟨k, x, f1, f2, f3, f5⟩
  · exact absurd hw (hp c hc)
end Str
theorem own_exA {Z : State} {h : Heap} {a u : Addr} {C : String} {n : Nat} {a0 : Array Value} {k : ClassId} {ty : FieldType} {z : Int32} {vs : List Value} {d : Value} (A : Arv Z h u k ty z vs d) (E : Exa Z h a C) (w : (Cond.instantiable C n).before a0 Z = true) : u ≠ a := by
  intro q
  subst q
  obtain ⟨cell, kk, e1, e2, e3, -, -⟩ := E
  obtain ⟨cl, ⟨a1, ⟨-, k', a3, comp, a4⟩, -⟩, -⟩ := A
  cases e1.symm.trans a1
  obtain ⟨t', k2, g1, g2, g3, -⟩ := Cond.instantiable_spec w
  cases g1.symm.trans e2
  cases g2.symm.trans a3
  rw [a4] at g3
  cases g3
theorem own_exU {Z : State} {h : Heap} {a u b : Addr} {cs : List Int32} {C : String} {n : Nat} {a0 : Array Value} (F : own_Str Z h b u cs) (E : Exa Z h a C) (w : (Cond.instantiable C n).before a0 Z = true) : u ≠ a := by
  obtain ⟨_, _, _, _, _, _, _, K, _⟩ := F
  exact own_exA K E w
section Sets
theorem own_staI {s : State} {args : Array Value} {C n d : String} {k : Int32} (h : (Cond.eq (.static C n d) (.int k)).value args s none s [] = some true) (hi : (Cond.initializedFor C n d).before args s = true) : Sta s s.heap C n d (.int k) := by
  obtain ⟨x, y, h1, h2, h3, h4⟩ := cmp_v (Or.inl h)
  cases (Term.int_eval (args := args) (first := s) (o := none) (idx := []) (s := s) k).symm.trans h2
  obtain ⟨z, rfl⟩ := h4
  have e := gotT (Cond.eq_ints h1 (Term.int_eval k)) h
  subst e
  exact Sta.start h1 (Or.inl hi)
theorem own_fldI {s : State} {args : Array Value} {t : Term} {a : Addr} {C n d : String} {k : Int32} (ev : t.eval args s none [] s = some (.ref a)) (h : (Cond.eq (.field t C n d) (.int k)).value args s none s [] = some true) : s.fieldOf? a C n d = some (.int k) := by
  obtain ⟨x, y, h1, h2, h3, h4⟩ := cmp_v (Or.inl h)
  cases (Term.int_eval (args := args) (first := s) (o := none) (idx := []) (s := s) k).symm.trans h2
  obtain ⟨z, rfl⟩ := h4
  have e := gotT (Cond.eq_ints h1 (Term.int_eval k)) h
  subst e
  rw [fld_at ev] at h1
  exact h1
end Sets
section Not
variable {Z : State} {a0 : Array Value}
theorem own_NSroot {O K : String} {n : Nat} (w : (Cond.noSuperclass O).before a0 Z = true) (wk : (Cond.instantiable K n).before a0 Z = true) (hn : O ≠ K) : NS Z O K := by
  obtain ⟨c, k, h1, h2, h3, -, -⟩ := Cond.noSuperclass_spec w
  obtain ⟨t, k2, g1, g2, g3, -⟩ := Cond.instantiable_spec wk
  have ne := ids_ne h1 g1 hn
  refine ⟨c, t, h1, g1, fun fuel => ?_⟩
  cases fuel with
  | zero => rfl
  | succ f => simp [Vm.isSubclassAux, ne, h2, h3]
theorem own_NSno {C S K : String} {n : Nat} (w : (Cond.superclass C S).before a0 Z = true) (wk : (Cond.instantiable K n).before a0 Z = true) (m : NS Z C K) (hn : C ≠ K) : ∃ c t, Z.vm.findClass C = some c ∧ Z.vm.findClass K = some t ∧ Z.vm.assignable c t = false := by
  obtain ⟨c, t, h0, g0, n3⟩ := m
  obtain ⟨p, k, kp, h1, h2, h3, h4, h5, -, h7⟩ := Cond.superclass_spec h0 w
  obtain ⟨t', k', g1, g2, g3, g4⟩ := Cond.instantiable_spec wk
  cases g0.symm.trans g1
  have ne := ids_ne h0 g0 hn
  refine ⟨c, t, h0, g0, ?_⟩
  show Z.vm.assignableAux (255 + 1) c t = false
  have g5 : k'.isInterface = false := (Bool.or_eq_false_iff.mp g4.1).1
  simp [Vm.assignableAux, ne, h2, g2, h5, g3, g5, Vm.isSubclass, n3]
end Not
end OwnKit

def own_St (Z : State) : Prop := (∃ G1 : Int32, Sta Z Z.heap "java/lang/String" "COMPACT_STRINGS" "Z" (.int G1) ∧ ¬ (G1 = (0 : Int32))) ∧ (∃ G3 : Value, Sta Z Z.heap "jdk/internal/util/Preconditions" "SIOOBE_FORMATTER" "Ljava/util/function/BiFunction;" G3 ∧ G3.isRef = true) ∧ True
theorem own_hws {a0 : Array Value} {Z : State} (hw : ∀ d ∈ tables_1, d.before a0 Z = true) : ∀ d ∈ StrChars.Road.words, d.before a0 Z = true := fun d hd => hw d ((by decide +kernel : ∀ d ∈ StrChars.Road.words, d ∈ tables_1) d hd)
theorem own_heq {a0 : Array Value} {Z : State} (hw : ∀ d ∈ tables_1, d.before a0 Z = true) : ∀ d ∈ StrChars.Road.wordsEq, d.before a0 Z = true := fun d hd => hw d ((by decide +kernel : ∀ d ∈ StrChars.Road.wordsEq, d ∈ tables_1) d hd)
theorem own_hsa {a0 : Array Value} {Z : State} (hw : ∀ d ∈ tables_1, d.before a0 Z = true) : ∀ d ∈ Bundle.stringAtoms, d.before a0 Z = true := fun d hd => hw d ((by decide +kernel : ∀ d ∈ Bundle.stringAtoms, d ∈ tables_1) d hd)
def own_Roles (Z : State) (rA rB rC rD rE : Addr) : Prop := Sta Z Z.heap "com/example/eager_query/eagerquery/model/Role" "TIME" "Lcom/example/eager_query/eagerquery/model/Role;" (.ref rA) ∧ Sta Z Z.heap "com/example/eager_query/eagerquery/model/Role" "PLACE" "Lcom/example/eager_query/eagerquery/model/Role;" (.ref rB) ∧ Sta Z Z.heap "com/example/eager_query/eagerquery/model/Role" "OBJECT" "Lcom/example/eager_query/eagerquery/model/Role;" (.ref rC) ∧ Sta Z Z.heap "com/example/eager_query/eagerquery/model/Role" "ACTION" "Lcom/example/eager_query/eagerquery/model/Role;" (.ref rD) ∧ Sta Z Z.heap "com/example/eager_query/eagerquery/model/Role" "EVENT" "Lcom/example/eager_query/eagerquery/model/Role;" (.ref rE) ∧ Exa Z Z.heap rA "com/example/eager_query/eagerquery/model/Role" ∧ Exa Z Z.heap rB "com/example/eager_query/eagerquery/model/Role" ∧ Exa Z Z.heap rC "com/example/eager_query/eagerquery/model/Role" ∧ Exa Z Z.heap rD "com/example/eager_query/eagerquery/model/Role" ∧ Exa Z Z.heap rE "com/example/eager_query/eagerquery/model/Role" ∧ rA ≠ rB ∧ rA ≠ rC ∧ rA ≠ rD ∧ rA ≠ rE ∧ rB ≠ rC ∧ rB ≠ rD ∧ rB ≠ rE ∧ rC ≠ rD ∧ rC ≠ rE ∧ rD ≠ rE
def own_roleV (rA rB rC rD rE : Addr) (k : Int32) : Value := if k = 1 then .ref rA else if k = 2 then .ref rB else if k = 3 then .ref rC else if k = 4 then .ref rD else if k = 5 then .ref rE else .null
theorem own_roleV_ref {rA rB rC rD rE : Addr} {k : Int32} : (own_roleV rA rB rC rD rE k).isRef = true := by
  unfold own_roleV
  repeat' split
  all_goals rfl
def own_word (n a b c : Int32) : List Int32 := if n = 1 then [a] else if n = 2 then [a, b] else [a, b, c]
def own_in3 (n : Int32) : Prop := n = 1 ∨ n = 2 ∨ n = 3
def own_in6 (n : Int32) : Prop := n = 0 ∨ n = 1 ∨ n = 2 ∨ n = 3 ∨ n = 4 ∨ n = 5
theorem own_role_exa {Z : State} {rA rB rC rD rE a : Addr} {k : Int32} (hR : own_Roles Z rA rB rC rD rE) (h : Value.ref a = own_roleV rA rB rC rD rE k) : Exa Z Z.heap a "com/example/eager_query/eagerquery/model/Role" := by
  obtain ⟨-, -, -, -, -, e1, e2, e3, e4, e5, -⟩ := hR
  unfold own_roleV at h
  repeat' split at h
  all_goals first | (cases h; assumption) | cases h
theorem own_roleV_inj {Z : State} {rA rB rC rD rE : Addr} {k q : Int32} (hR : own_Roles Z rA rB rC rD rE) (hk : own_in6 k) (hq : own_in6 q) (h : own_roleV rA rB rC rD rE k = own_roleV rA rB rC rD rE q) : k = q := by
  obtain ⟨-, -, -, -, -, -, -, -, -, -, n1, n2, n3, n4, n5, n6, n7, n8, n9, n10⟩ := hR
  rcases hk with rfl | rfl | rfl | rfl | rfl | rfl <;> rcases hq with rfl | rfl | rfl | rfl | rfl | rfl <;> first | rfl | (exfalso; simp [own_roleV] at h; done) | (exfalso; simp [own_roleV] at h; first | (exact absurd h (by assumption)) | (exact absurd h.symm (by assumption)))
theorem own_word_eq {n q a b c a' b' c' : Int32} (hn : own_in3 n) (hq : own_in3 q) : own_word n a b c = own_word q a' b' c' ↔ n = q ∧ a = a' ∧ (n < 2 ∨ b = b') ∧ (n < 3 ∨ c = c') := by
  rcases hn with rfl | rfl | rfl <;> rcases hq with rfl | rfl | rfl <;> simp [own_word]
theorem own_rem3 (x : Int32) : own_in3 ((1 : Int32) + ((x &&& (2147483647 : Int32)) % (3 : Int32))) := by
  have h := c_irem (x &&& 2147483647) 3 3 rfl
  have h0 := (c_and x 2147483647 (by decide)).1
  have h1 := h.1 h0
  have h2 := c_iadd 1 ((x &&& 2147483647) % 3)
  have r := rng32 ((1 : Int32) + ((x &&& (2147483647 : Int32)) % (3 : Int32)))
  have e1 : (1 : Int32).toInt = 1 := rfl
  have e2 : (2 : Int32).toInt = 2 := rfl
  have e3 : (3 : Int32).toInt = 3 := rfl
  unfold own_in3
  simp only [← Int32.toInt_inj, e1, e2, e3]
  rw [e1] at h2
  omega
theorem own_rem6 (x : Int32) : own_in6 ((x &&& (2147483647 : Int32)) % (6 : Int32)) := by
  have h := c_irem (x &&& 2147483647) 6 6 rfl
  have h0 := (c_and x 2147483647 (by decide)).1
  have h1 := h.1 h0
  have e0 : (0 : Int32).toInt = 0 := rfl
  have e1 : (1 : Int32).toInt = 1 := rfl
  have e2 : (2 : Int32).toInt = 2 := rfl
  have e3 : (3 : Int32).toInt = 3 := rfl
  have e4 : (4 : Int32).toInt = 4 := rfl
  have e5 : (5 : Int32).toInt = 5 := rfl
  unfold own_in6
  simp only [← Int32.toInt_inj, e0, e1, e2, e3, e4, e5]
  omega
theorem own_sw {α β : Type} {a b : α} {c d : β} (h : a = b ∧ c = d) : b = a ∧ d = c := ⟨h.1.symm, h.2.symm⟩
theorem own_y1 {v : Int32} {P : Prop} (h : (v = (1 : Int32) ∧ P) ∨ (v = (0 : Int32) ∧ ¬ P)) (q : P) : (1 : Int32) = v := h.elim (fun w => w.1.symm) (fun w => absurd q w.2)
theorem own_y0 {v : Int32} {P : Prop} (h : (v = (1 : Int32) ∧ P) ∨ (v = (0 : Int32) ∧ ¬ P)) (q : ¬ P) : (0 : Int32) = v := h.elim (fun w => absurd w.2 q) (fun w => w.1.symm)
theorem own_ord {args : Array Value} {s : State} {t t' : Term} {a b : Addr} {C n d : String} {i j : Int32} (ea : t.eval args s none [] s = some (.ref a)) (eb : t'.eval args s none [] s = some (.ref b)) (h : (Cond.eq (.field t C n d) (.int i)).value args s none s [] = some true) (h' : (Cond.eq (.field t' C n d) (.int j)).value args s none s [] = some true) (hn : i ≠ j) : a ≠ b := by
  intro q
  subst q
  have h1 := own_fldI ea h
  have h2 := own_fldI eb h'
  rw [h1] at h2
  exact hn (Value.int.inj (Option.some.inj h2))
theorem own_pn0 : plainName "com/example/eager_query/eagerquery/model/ElementEqualsPinLaw" = true := by first | (simp [plainName, overriddenIn]; done) | decide +kernel
theorem own_d_m3_0 : decode method_3_code 0 = .ok (.iload_n 0, 1) := by decide +kernel
theorem own_d_m3_1 : decode method_3_code 1 = .ok (.iconst 1, 1) := by decide +kernel
theorem own_d_m3_2 : decode method_3_code 2 = .ok (.if_icmp .ne 18, 3) := by decide +kernel
theorem own_d_m3_5 : decode method_3_code 5 = .ok (.new 25, 3) := by decide +kernel
theorem own_d_m3_8 : decode method_3_code 8 = .ok (.dup, 1) := by decide +kernel
theorem own_d_m3_9 : decode method_3_code 9 = .ok (.iconst 1, 1) := by decide +kernel
theorem own_d_m3_10 : decode method_3_code 10 = .ok (.newarray .char, 2) := by decide +kernel
theorem own_d_m3_12 : decode method_3_code 12 = .ok (.dup, 1) := by decide +kernel
theorem own_d_m3_13 : decode method_3_code 13 = .ok (.iconst 0, 1) := by decide +kernel
theorem own_d_m3_14 : decode method_3_code 14 = .ok (.iload_n 1, 1) := by decide +kernel
theorem own_d_m3_15 : decode method_3_code 15 = .ok (.castore, 1) := by decide +kernel
theorem own_pd0 : parseMethodDescriptor "([C)V" = some ⟨[(.array .char)], none⟩ := by decide +kernel
theorem own_d_m3_16 : decode method_3_code 16 = .ok (.invokespecial 27, 3) := by decide +kernel
theorem own_d_m3_19 : decode method_3_code 19 = .ok (.areturn, 1) := by decide +kernel
theorem own_d_m3_20 : decode method_3_code 20 = .ok (.iload_n 0, 1) := by decide +kernel
theorem own_d_m3_21 : decode method_3_code 21 = .ok (.iconst 2, 1) := by decide +kernel
theorem own_d_m3_22 : decode method_3_code 22 = .ok (.if_icmp .ne 22, 3) := by decide +kernel
theorem own_d_m3_25 : decode method_3_code 25 = .ok (.new 25, 3) := by decide +kernel
theorem own_d_m3_28 : decode method_3_code 28 = .ok (.dup, 1) := by decide +kernel
theorem own_d_m3_29 : decode method_3_code 29 = .ok (.iconst 2, 1) := by decide +kernel
theorem own_d_m3_30 : decode method_3_code 30 = .ok (.newarray .char, 2) := by decide +kernel
theorem own_d_m3_32 : decode method_3_code 32 = .ok (.dup, 1) := by decide +kernel
theorem own_d_m3_33 : decode method_3_code 33 = .ok (.iconst 0, 1) := by decide +kernel
theorem own_d_m3_34 : decode method_3_code 34 = .ok (.iload_n 1, 1) := by decide +kernel
theorem own_d_m3_35 : decode method_3_code 35 = .ok (.castore, 1) := by decide +kernel
theorem own_d_m3_36 : decode method_3_code 36 = .ok (.dup, 1) := by decide +kernel
theorem own_d_m3_37 : decode method_3_code 37 = .ok (.iconst 1, 1) := by decide +kernel
theorem own_d_m3_38 : decode method_3_code 38 = .ok (.iload_n 2, 1) := by decide +kernel
theorem own_d_m3_39 : decode method_3_code 39 = .ok (.castore, 1) := by decide +kernel
theorem own_d_m3_40 : decode method_3_code 40 = .ok (.invokespecial 27, 3) := by decide +kernel
theorem own_d_m3_43 : decode method_3_code 43 = .ok (.areturn, 1) := by decide +kernel
theorem own_d_m3_44 : decode method_3_code 44 = .ok (.new 25, 3) := by decide +kernel
theorem own_d_m3_47 : decode method_3_code 47 = .ok (.dup, 1) := by decide +kernel
theorem own_d_m3_48 : decode method_3_code 48 = .ok (.iconst 3, 1) := by decide +kernel
theorem own_d_m3_49 : decode method_3_code 49 = .ok (.newarray .char, 2) := by decide +kernel
theorem own_d_m3_51 : decode method_3_code 51 = .ok (.dup, 1) := by decide +kernel
theorem own_d_m3_52 : decode method_3_code 52 = .ok (.iconst 0, 1) := by decide +kernel
theorem own_d_m3_53 : decode method_3_code 53 = .ok (.iload_n 1, 1) := by decide +kernel
theorem own_d_m3_54 : decode method_3_code 54 = .ok (.castore, 1) := by decide +kernel
theorem own_d_m3_55 : decode method_3_code 55 = .ok (.dup, 1) := by decide +kernel
theorem own_d_m3_56 : decode method_3_code 56 = .ok (.iconst 1, 1) := by decide +kernel
theorem own_d_m3_57 : decode method_3_code 57 = .ok (.iload_n 2, 1) := by decide +kernel
theorem own_d_m3_58 : decode method_3_code 58 = .ok (.castore, 1) := by decide +kernel
theorem own_d_m3_59 : decode method_3_code 59 = .ok (.dup, 1) := by decide +kernel
theorem own_d_m3_60 : decode method_3_code 60 = .ok (.iconst 2, 1) := by decide +kernel
theorem own_d_m3_61 : decode method_3_code 61 = .ok (.iload_n 3, 1) := by decide +kernel
theorem own_d_m3_62 : decode method_3_code 62 = .ok (.castore, 1) := by decide +kernel
theorem own_d_m3_63 : decode method_3_code 63 = .ok (.invokespecial 27, 3) := by decide +kernel
theorem own_d_m3_66 : decode method_3_code 66 = .ok (.areturn, 1) := by decide +kernel
theorem own_d_m2_0 : decode method_2_code 0 = .ok (.iload_n 0, 1) := by decide +kernel
theorem own_d_m2_1 : decode method_2_code 1 = .ok (.iconst 1, 1) := by decide +kernel
theorem own_d_m2_2 : decode method_2_code 2 = .ok (.if_icmp .ne 7, 3) := by decide +kernel
theorem own_d_m2_5 : decode method_2_code 5 = .ok (.getstatic 7, 3) := by decide +kernel
theorem own_d_m2_8 : decode method_2_code 8 = .ok (.areturn, 1) := by decide +kernel
theorem own_d_m2_9 : decode method_2_code 9 = .ok (.iload_n 0, 1) := by decide +kernel
theorem own_d_m2_10 : decode method_2_code 10 = .ok (.iconst 2, 1) := by decide +kernel
theorem own_d_m2_11 : decode method_2_code 11 = .ok (.if_icmp .ne 7, 3) := by decide +kernel
theorem own_d_m2_14 : decode method_2_code 14 = .ok (.getstatic 13, 3) := by decide +kernel
theorem own_d_m2_17 : decode method_2_code 17 = .ok (.areturn, 1) := by decide +kernel
theorem own_d_m2_18 : decode method_2_code 18 = .ok (.iload_n 0, 1) := by decide +kernel
theorem own_d_m2_19 : decode method_2_code 19 = .ok (.iconst 3, 1) := by decide +kernel
theorem own_d_m2_20 : decode method_2_code 20 = .ok (.if_icmp .ne 7, 3) := by decide +kernel
theorem own_d_m2_23 : decode method_2_code 23 = .ok (.getstatic 16, 3) := by decide +kernel
theorem own_d_m2_26 : decode method_2_code 26 = .ok (.areturn, 1) := by decide +kernel
theorem own_d_m2_27 : decode method_2_code 27 = .ok (.iload_n 0, 1) := by decide +kernel
theorem own_d_m2_28 : decode method_2_code 28 = .ok (.iconst 4, 1) := by decide +kernel
theorem own_d_m2_29 : decode method_2_code 29 = .ok (.if_icmp .ne 7, 3) := by decide +kernel
theorem own_d_m2_32 : decode method_2_code 32 = .ok (.getstatic 19, 3) := by decide +kernel
theorem own_d_m2_35 : decode method_2_code 35 = .ok (.areturn, 1) := by decide +kernel
theorem own_d_m2_36 : decode method_2_code 36 = .ok (.iload_n 0, 1) := by decide +kernel
theorem own_d_m2_37 : decode method_2_code 37 = .ok (.iconst 5, 1) := by decide +kernel
theorem own_d_m2_38 : decode method_2_code 38 = .ok (.if_icmp .ne 7, 3) := by decide +kernel
theorem own_d_m2_41 : decode method_2_code 41 = .ok (.getstatic 22, 3) := by decide +kernel
theorem own_d_m2_44 : decode method_2_code 44 = .ok (.areturn, 1) := by decide +kernel
theorem own_d_m2_45 : decode method_2_code 45 = .ok (.aconst_null, 1) := by decide +kernel
theorem own_d_m2_46 : decode method_2_code 46 = .ok (.areturn, 1) := by decide +kernel
theorem own_pn1 : plainName "java/util/Objects" = true := by first | (simp [plainName, overriddenIn]; done) | decide +kernel
theorem own_d_jdk_31_m11_0 : decode jdk_31_method_11_code 0 = .ok (.aload_n 0, 1) := by decide +kernel
theorem own_d_jdk_31_m11_1 : decode jdk_31_method_11_code 1 = .ok (.ifnonnull 12, 3) := by decide +kernel
theorem own_d_jdk_31_m11_13 : decode jdk_31_method_11_code 13 = .ok (.aload_n 0, 1) := by decide +kernel
theorem own_d_jdk_31_m11_14 : decode jdk_31_method_11_code 14 = .ok (.areturn, 1) := by decide +kernel
theorem own_pn2 : plainName "com/example/eager_query/eagerquery/model/Element" = true := by first | (simp [plainName, overriddenIn]; done) | decide +kernel
theorem own_d_prog_15_m2_0 : decode prog_15_method_2_code 0 = .ok (.aload_n 0, 1) := by decide +kernel
theorem own_d_prog_15_m2_1 : decode prog_15_method_2_code 1 = .ok (.invokespecial 1, 3) := by decide +kernel
theorem own_d_prog_15_m2_4 : decode prog_15_method_2_code 4 = .ok (.aload_n 0, 1) := by decide +kernel
theorem own_d_prog_15_m2_5 : decode prog_15_method_2_code 5 = .ok (.aload_n 1, 1) := by decide +kernel
theorem own_d_prog_15_m2_6 : decode prog_15_method_2_code 6 = .ok (.ldc 26, 2) := by decide +kernel
theorem own_pd1 : parseMethodDescriptor "(Ljava/lang/Object;Ljava/lang/String;)Ljava/lang/Object;" = some ⟨[(.object "java/lang/Object"), (.object "java/lang/String")], some (.object "java/lang/Object")⟩ := by decide +kernel
theorem own_d_prog_15_m2_8 : decode prog_15_method_2_code 8 = .ok (.invokestatic 15, 3) := by decide +kernel
theorem own_d_prog_15_m2_11 : decode prog_15_method_2_code 11 = .ok (.checkcast 27, 3) := by decide +kernel
theorem own_d_prog_15_m2_14 : decode prog_15_method_2_code 14 = .ok (.putfield 7, 3) := by decide +kernel
theorem own_d_prog_15_m2_17 : decode prog_15_method_2_code 17 = .ok (.aload_n 0, 1) := by decide +kernel
theorem own_d_prog_15_m2_18 : decode prog_15_method_2_code 18 = .ok (.aload_n 2, 1) := by decide +kernel
theorem own_d_prog_15_m2_19 : decode prog_15_method_2_code 19 = .ok (.ldc 13, 2) := by decide +kernel
theorem own_d_prog_15_m2_21 : decode prog_15_method_2_code 21 = .ok (.invokestatic 15, 3) := by decide +kernel
theorem own_d_prog_15_m2_24 : decode prog_15_method_2_code 24 = .ok (.checkcast 21, 3) := by decide +kernel
theorem own_d_prog_15_m2_27 : decode prog_15_method_2_code 27 = .ok (.putfield 23, 3) := by decide +kernel
theorem own_d_prog_15_m2_30 : decode prog_15_method_2_code 30 = .ok (.return_, 1) := by decide +kernel
theorem own_d_prog_15_m1_0 : decode prog_15_method_1_code 0 = .ok (.aload_n 0, 1) := by decide +kernel
theorem own_d_prog_15_m1_1 : decode prog_15_method_1_code 1 = .ok (.invokespecial 1, 3) := by decide +kernel
theorem own_d_prog_15_m1_4 : decode prog_15_method_1_code 4 = .ok (.aload_n 0, 1) := by decide +kernel
theorem own_d_prog_15_m1_5 : decode prog_15_method_1_code 5 = .ok (.aconst_null, 1) := by decide +kernel
theorem own_d_prog_15_m1_6 : decode prog_15_method_1_code 6 = .ok (.putfield 7, 3) := by decide +kernel
theorem own_d_prog_15_m1_9 : decode prog_15_method_1_code 9 = .ok (.aload_n 0, 1) := by decide +kernel
theorem own_d_prog_15_m1_10 : decode prog_15_method_1_code 10 = .ok (.aload_n 1, 1) := by decide +kernel
theorem own_d_prog_15_m1_11 : decode prog_15_method_1_code 11 = .ok (.ldc 13, 2) := by decide +kernel
theorem own_d_prog_15_m1_13 : decode prog_15_method_1_code 13 = .ok (.invokestatic 15, 3) := by decide +kernel
theorem own_d_prog_15_m1_16 : decode prog_15_method_1_code 16 = .ok (.checkcast 21, 3) := by decide +kernel
theorem own_d_prog_15_m1_19 : decode prog_15_method_1_code 19 = .ok (.putfield 23, 3) := by decide +kernel
theorem own_d_prog_15_m1_22 : decode prog_15_method_1_code 22 = .ok (.return_, 1) := by decide +kernel
theorem own_d_m4_0 : decode method_4_code 0 = .ok (.iload_n 0, 1) := by decide +kernel
theorem own_pd2 : parseMethodDescriptor "(I)Lcom/example/eager_query/eagerquery/model/Role;" = some ⟨[.int], some (.object "com/example/eager_query/eagerquery/model/Role")⟩ := by decide +kernel
theorem own_d_m4_1 : decode method_4_code 1 = .ok (.invokestatic 30, 3) := by decide +kernel
theorem own_d_m4_4 : decode method_4_code 4 = .ok (.astore_n 2, 1) := by decide +kernel
theorem own_d_m4_5 : decode method_4_code 5 = .ok (.aload_n 2, 1) := by decide +kernel
theorem own_d_m4_6 : decode method_4_code 6 = .ok (.ifnonnull 12, 3) := by decide +kernel
theorem own_d_m4_9 : decode method_4_code 9 = .ok (.new 36, 3) := by decide +kernel
theorem own_d_m4_12 : decode method_4_code 12 = .ok (.dup, 1) := by decide +kernel
theorem own_d_m4_13 : decode method_4_code 13 = .ok (.aload_n 1, 1) := by decide +kernel
theorem own_pd3 : parseMethodDescriptor "(Ljava/lang/String;)V" = some ⟨[(.object "java/lang/String")], none⟩ := by decide +kernel
theorem own_d_m4_14 : decode method_4_code 14 = .ok (.invokespecial 38, 3) := by decide +kernel
theorem own_d_m4_17 : decode method_4_code 17 = .ok (.areturn, 1) := by decide +kernel
theorem own_d_m4_18 : decode method_4_code 18 = .ok (.new 36, 3) := by decide +kernel
theorem own_d_m4_21 : decode method_4_code 21 = .ok (.dup, 1) := by decide +kernel
theorem own_d_m4_22 : decode method_4_code 22 = .ok (.aload_n 2, 1) := by decide +kernel
theorem own_d_m4_23 : decode method_4_code 23 = .ok (.aload_n 1, 1) := by decide +kernel
theorem own_pd4 : parseMethodDescriptor "(Lcom/example/eager_query/eagerquery/model/Role;Ljava/lang/String;)V" = some ⟨[(.object "com/example/eager_query/eagerquery/model/Role"), (.object "java/lang/String")], none⟩ := by decide +kernel
theorem own_d_m4_24 : decode method_4_code 24 = .ok (.invokespecial 41, 3) := by decide +kernel
theorem own_d_m4_27 : decode method_4_code 27 = .ok (.areturn, 1) := by decide +kernel
theorem own_d_prog_15_m5_0 : decode prog_15_method_5_code 0 = .ok (.aload_n 0, 1) := by decide +kernel
theorem own_d_prog_15_m5_1 : decode prog_15_method_5_code 1 = .ok (.aload_n 1, 1) := by decide +kernel
theorem own_d_prog_15_m5_2 : decode prog_15_method_5_code 2 = .ok (.if_acmp .ne 5, 3) := by decide +kernel
theorem own_d_prog_15_m5_7 : decode prog_15_method_5_code 7 = .ok (.aload_n 1, 1) := by decide +kernel
theorem own_d_prog_15_m5_8 : decode prog_15_method_5_code 8 = .ok (.instanceof 8, 3) := by decide +kernel
theorem own_d_prog_15_m5_11 : decode prog_15_method_5_code 11 = .ok (.ifCond .ne 5, 3) := by decide +kernel
theorem own_d_prog_15_m5_14 : decode prog_15_method_5_code 14 = .ok (.iconst 0, 1) := by decide +kernel
theorem own_d_prog_15_m5_15 : decode prog_15_method_5_code 15 = .ok (.ireturn, 1) := by decide +kernel
theorem own_d_prog_15_m5_5 : decode prog_15_method_5_code 5 = .ok (.iconst 1, 1) := by decide +kernel
theorem own_d_prog_15_m5_6 : decode prog_15_method_5_code 6 = .ok (.ireturn, 1) := by decide +kernel
theorem own_d_prog_15_m5_16 : decode prog_15_method_5_code 16 = .ok (.aload_n 1, 1) := by decide +kernel
theorem own_d_prog_15_m5_17 : decode prog_15_method_5_code 17 = .ok (.checkcast 8, 3) := by decide +kernel
theorem own_d_prog_15_m5_20 : decode prog_15_method_5_code 20 = .ok (.astore_n 2, 1) := by decide +kernel
theorem own_d_prog_15_m5_21 : decode prog_15_method_5_code 21 = .ok (.aload_n 0, 1) := by decide +kernel
theorem own_d_prog_15_m5_22 : decode prog_15_method_5_code 22 = .ok (.getfield 7, 3) := by decide +kernel
theorem own_d_prog_15_m5_25 : decode prog_15_method_5_code 25 = .ok (.aload_n 2, 1) := by decide +kernel
theorem own_d_prog_15_m5_26 : decode prog_15_method_5_code 26 = .ok (.getfield 7, 3) := by decide +kernel
theorem own_d_prog_15_m5_29 : decode prog_15_method_5_code 29 = .ok (.if_acmp .ne 21, 3) := by decide +kernel
theorem own_d_prog_15_m5_32 : decode prog_15_method_5_code 32 = .ok (.aload_n 0, 1) := by decide +kernel
theorem own_d_prog_15_m5_33 : decode prog_15_method_5_code 33 = .ok (.getfield 23, 3) := by decide +kernel
theorem own_d_prog_15_m5_36 : decode prog_15_method_5_code 36 = .ok (.aload_n 2, 1) := by decide +kernel
theorem own_d_prog_15_m5_37 : decode prog_15_method_5_code 37 = .ok (.getfield 23, 3) := by decide +kernel
theorem own_pd5 : parseMethodDescriptor "(Ljava/lang/Object;)Z" = some ⟨[(.object "java/lang/Object")], some .boolean⟩ := by decide +kernel
theorem own_d_prog_15_m5_40 : decode prog_15_method_5_code 40 = .ok (.invokevirtual 35, 3) := by decide +kernel
theorem own_d_prog_15_m5_43 : decode prog_15_method_5_code 43 = .ok (.ifCond .eq 7, 3) := by decide +kernel
theorem own_d_prog_15_m5_46 : decode prog_15_method_5_code 46 = .ok (.iconst 1, 1) := by decide +kernel
theorem own_d_prog_15_m5_47 : decode prog_15_method_5_code 47 = .ok (.goto 4, 3) := by decide +kernel
theorem own_d_prog_15_m5_51 : decode prog_15_method_5_code 51 = .ok (.ireturn, 1) := by decide +kernel
theorem own_d_prog_15_m5_50 : decode prog_15_method_5_code 50 = .ok (.iconst 0, 1) := by decide +kernel
theorem own_pd6 : parseMethodDescriptor "(ICCC)Ljava/lang/String;" = some ⟨[.int, .char, .char, .char], some (.object "java/lang/String")⟩ := by decide +kernel
theorem own_pd7 : parseMethodDescriptor "(ILjava/lang/String;)Lcom/example/eager_query/eagerquery/model/Element;" = some ⟨[.int, (.object "java/lang/String")], some (.object "com/example/eager_query/eagerquery/model/Element")⟩ := by decide +kernel
def own_Qword (Z : State) (wn : Int32) (wa : Int32) (wb : Int32) (wc : Int32) (h0 : Heap) (n0 : Nat) (v : Option Value) (h : Heap) (L : List Loc) : Prop := (∃ (oa : Addr) (ou : Addr), v = some (.ref oa) ∧ Fr n0 L ∧ Keep h0 h [] ∧ (h0.size ≤ oa) ∧ (h0.size ≤ ou) ∧ (oa ≠ ou) ∧ (own_Str Z h oa ou (own_word wn wa wb wc)))
theorem own_ef_word (m : MethodId) (wn : Int32) (wa : Int32) (wb : Int32) (wc : Int32)  : entryFrame m #[(.int wn), (.int wa), (.int wb), (.int wc)] 4 = mkF m 0 #[.val (.int wn), .val (.int wa), .val (.int wb), .val (.int wc)] [] := by first | (simp [entryFrame, mkF, argsToLocals, Value.category]; done) | rfl
set_option maxRecDepth 65536 in
set_option maxHeartbeats 40000000 in
theorem own_rmword (l : Launch) (Z : State) (a0 : Array Value) (hw : ∀ d ∈ tables_1, d.before a0 Z = true) (hst : own_St Z) (ws : List Jvm.Cond) (wn : Int32) (wa : Int32) (wb : Int32) (wc : Int32) (h0 : Heap) (n0 : Nat) (X00 : Old Z n0 h0) (ha : ¬ wa < 0 ∧ ¬ (255 : Int32) < wa) (hbb : ¬ wb < 0 ∧ ¬ (255 : Int32) < wb) (hc : ¬ wc < 0 ∧ ¬ (255 : Int32) < wc) :
    MetFree l (⟨"com/example/eager_query/eagerquery/model/ElementEqualsPinLaw", "word", "(ICCC)Ljava/lang/String;"⟩ : MethodName) (head1 (Jvm.Cond.code (⟨"com/example/eager_query/eagerquery/model/ElementEqualsPinLaw", "word", "(ICCC)Ljava/lang/String;"⟩ : MethodName) method_3_code 4 (Option.some (Jvm.ClassFile.FieldType.object "java/lang/String")) :: ws) ({ frames := 4, cells := 3, slots := 10, locals := 66 } : Room)) (fun a U => a = #[(.int wn), (.int wa), (.int wb), (.int wc)] ∧ Z.Warmed39 U.vm ∧ U.heap = h0) (fun _ _ _ _ _ => True) (fun _ U o U' => ∃ v L, o = .returned v ∧ own_Qword Z wn wa wb wc h0 n0 v U'.heap L ∧ FrameEnd U o U' L ({ frames := 4, cells := 3, slots := 10, locals := 66 } : Room).cells ({ frames := 4, cells := 3, slots := 10, locals := 66 } : Room).slots) := by
  refine MetFree.of_bodySF (plainFor_of_name own_pn0) hisR ?_
  intro p e s m args below meth c s₁ Bd hml0 hP hK
  obtain ⟨rfl, hZ, hh⟩ := hP
  have hx := Bd.exec
  have hby := Bd.bytes
  have hret := Bd.returns
  have hlk : meth.locks = false := BodyLoose.notSynchronized Bd
  have hml : c.maxLocals = 4 := hml0
  have hown : s.vm.findClass "com/example/eager_query/eagerquery/model/ElementEqualsPinLaw" = some m.cls := findClass_of_methodNamed Bd.named
  have hnm := (name_of_methodNamed Bd.named Bd.method).1
  have X0 : Stand p l e ({ frames := 4, cells := 3, slots := 10, locals := 66 } : Room) s m #[(.int wn), (.int wa), (.int wb), (.int wc)] below meth c s₁ [] 0 0 := Stand.of_body Bd
  have e0 : s₁.heap = h0 := by rw [← hh, Bd.state]; rfl
  have N0 := Fr.nil n0
  have KK0 : Keep h0 h0 [] := Keep.refl h0 _
  refine own_start (own_Qword Z wn wa wb wc h0 n0) ?_
  refine own_to (V := s₁.setTop (mkF m 0 #[.val (.int wn), .val (.int wa), .val (.int wb), .val (.int wc)] [])) ?_ (fun t k => castTop (own_ef_word m wn wa wb wc ) k)
  obtain ⟨⟨G1, O2, P5⟩, ⟨G3, O4, rG3⟩, -⟩ := id hst
  refine own_to (V := s₁.setTop (mkF m 2 #[.val (.int wn), .val (.int wa), .val (.int wb), .val (.int wc)] [(.int (1 : Int32)), (.int wn)])) ?_ fun t k => (by
    refine XS.iloadN X0.here hx rfl (hb hby own_d_m3_0) rfl ?_
    refine XS.iconst X0.here hx rfl (hb hby own_d_m3_1) ?_
    exact k)
  by_cases hc2_101 : wn = (1 : Int32)
  · skip
    refine own_to (V := s₁.setTop (mkF m 5 #[.val (.int wn), .val (.int wa), .val (.int wb), .val (.int wc)] [])) ?_ fun t k => (by
      refine XS.icmpNo X0.here hx rfl (hb hby own_d_m3_2) rfl (teq (hc2_101 : wn = (1 : Int32))).2 ?_
      exact k)
    obtain ⟨T102, h102, X102, e102, E102, A102, D102, U102, st102⟩ := newO X0 hx hZ hown (hw _ (List.mem_of_getElem? (i := 5) rfl)) (hw _ (List.mem_of_getElem? (i := 6) rfl)) (hw _ (List.mem_of_getElem? (i := 7) rfl)) e0 (g := (mkF m 5 #[.val (.int wn), .val (.int wa), .val (.int wb), .val (.int wc)] [])) rfl (hb hby own_d_m3_5) (by decide) (by decide)
    obtain ⟨b102, g102⟩ : ∃ z, z = h0.size := ⟨_, rfl⟩
    rw [← g102] at A102 D102 U102 st102
    have Xo102 : Old Z n0 h102 := X00.ext E102
    have KK102 : Keep h0 h102 [] := KK0.ext E102
    have ge_b102 : n0 ≤ b102 := Nat.le_trans (own_ole X00) (Nat.le_of_eq g102.symm)
    have sz_b102 : h0.size ≤ b102 := Nat.le_trans KK0.1 (Nat.le_of_eq g102.symm)
    have Fi102_32 : Fld Z h102 b102 "java/lang/String" "coder" "B" (.int (0 : Int32)) := D102 (Or.inr (hw _ (List.mem_of_getElem? (i := 32) rfl))) (ty := .byte) (by decide)
    have Fi102_34 : Fld Z h102 b102 "java/lang/String" "value" "[B" .null := D102 (Or.inr (hw _ (List.mem_of_getElem? (i := 34) rfl))) (ty := (.array .byte)) (by decide)
    refine own_to (V := T102.setTop (mkF m 8 #[.val (.int wn), .val (.int wa), .val (.int wb), .val (.int wc)] [(.ref b102)])) ?_ st102
    refine own_to (V := T102.setTop (mkF m 10 #[.val (.int wn), .val (.int wa), .val (.int wb), .val (.int wc)] [(.int (1 : Int32)), (.ref b102), (.ref b102)])) ?_ fun t k => (by
      refine XS.dup X102.here hx rfl (hb hby own_d_m3_8) rfl rfl ?_
      refine XS.iconst X102.here hx rfl (hb hby own_d_m3_9) ?_
      exact k)
    obtain ⟨T103, h103, k103, X103, e103, E103, A103, st103⟩ := newP X102 hx hZ (hw _ (List.mem_of_getElem? (i := 8) rfl)) e102 (g := (mkF m 10 #[.val (.int wn), .val (.int wa), .val (.int wb), .val (.int wc)] [(.int (1 : Int32)), (.ref b102), (.ref b102)])) rfl (hb hby own_d_m3_10) rfl (by decide) (cap := 1) (by decide) (by decide) (by decide) (by decide)
    obtain ⟨b103, g103⟩ : ∃ z, z = h102.size := ⟨_, rfl⟩
    rw [← g103] at A103 st103
    have Xo103 : Old Z n0 h103 := Xo102.ext E103
    have KK103 : Keep h0 h103 [] := KK102.ext E103
    have ge_b103 : n0 ≤ b103 := Nat.le_trans (own_ole Xo102) (Nat.le_of_eq g103.symm)
    have sz_b103 : h0.size ≤ b103 := Nat.le_trans KK102.1 (Nat.le_of_eq g103.symm)
    have V103 : Arv Z h103 b103 k103 .char (1 : Int32) [(.int (0 : Int32))] (.int (0 : Int32)) := (Arv.new A103 (by decide)).pad (pad_rep [] (.int (0 : Int32)) 1)
    refine own_to (V := T103.setTop (mkF m 12 #[.val (.int wn), .val (.int wa), .val (.int wb), .val (.int wc)] [(.ref b103), (.ref b102), (.ref b102)])) ?_ st103
    refine own_to (V := T103.setTop (mkF m 15 #[.val (.int wn), .val (.int wa), .val (.int wb), .val (.int wc)] [(.int wa), (.int (0 : Int32)), (.ref b103), (.ref b103), (.ref b102), (.ref b102)])) ?_ fun t k => (by
      refine XS.dup X103.here hx rfl (hb hby own_d_m3_12) rfl rfl ?_
      refine XS.iconst X103.here hx rfl (hb hby own_d_m3_13) ?_
      refine XS.iloadN X103.here hx rfl (hb hby own_d_m3_14) rfl ?_
      exact k)
    obtain ⟨cl104, Ar104, q104, S104, M104, H104, G104⟩ := id V103
    obtain ⟨T104, h104, X104, e104, W104, st104⟩ := stC X103 hx hZ e103 Ar104 (j := (0 : Int32)) (inb_of S104 ⟨by decide, by decide⟩) (g := (mkF m 15 #[.val (.int wn), .val (.int wa), .val (.int wb), .val (.int wc)] [(.int wa), (.int (0 : Int32)), (.ref b103), (.ref b103), (.ref b102), (.ref b102)])) rfl rfl (hb hby own_d_m3_15)
    rw [own_narC (own_up ha)] at W104
    have Xo104 : Old Z n0 h104 := Xo103.wr W104 ge_b103
    have KK104 : Keep h0 h104 [] := KK103.wr W104 (Or.inr sz_b103)
    have V104 : Arv Z h104 b103 k103 .char (1 : Int32) [(.int wa)] (.int (0 : Int32)) := Arv.set Ar104 q104 S104 M104 H104 G104 (own_fitC (own_up ha)) W104 0 rfl (Nat.le_of_ble_eq_true rfl)
    have N104 := Fr.snoc X104 N0 ge_b103
    refine own_to (V := T104.setTop (mkF m 16 #[.val (.int wn), .val (.int wa), .val (.int wb), .val (.int wc)] [(.ref b103), (.ref b102), (.ref b102)])) ?_ st104
    have F106 : Exa Z h104 b102 "java/lang/String" := ((A102.ext E103).wr W104)
    have F107 : Fld Z h104 b102 "java/lang/String" "value" "[B" .null := ((Fi102_34.ext E103).other W104 (Or.inl (Nat.ne_of_lt (Nat.lt_of_lt_of_le A102.lt (Nat.le_of_eq g103.symm)))))
    have F108 : Fld Z h104 b102 "java/lang/String" "coder" "B" (.int (0 : Int32)) := ((Fi102_32.ext E103).other W104 (Or.inl (Nat.ne_of_lt (Nat.lt_of_lt_of_le A102.lt (Nat.le_of_eq g103.symm)))))
    obtain ⟨_, _, ⟨T105, L105, k105, n105⟩, -, X105, ⟨Lc105, hQ105, l105, y105, z105⟩, st105⟩ := X104.specialBack hx (y := (⟨"java/lang/String", "<init>", "([C)V"⟩ : MethodName)) rfl hown (mvT hZ (hw _ (List.mem_of_getElem? (i := 9) rfl))) (mvT hZ (hw _ (List.mem_of_getElem? (i := 10) rfl))) (mvT hZ (hw _ (List.mem_of_getElem? (i := 11) rfl))) (by decide) (StrChars.Road.backV (W := 1) hZ (own_hws hw) (kI := 4) (hw _ (List.mem_of_getElem? (i := 6) rfl)) (cs := ([wa] : List Int32)) (bs := ([wa] : List Int32).map (fun c => c.toInt8.toInt32)) (n := 1) ge_b102 (own_ole Xo104) F106 F107 F108 V104 (O2.ext Xo104.2) P5 rfl rfl (by decide) (by decide) (own_allS ha own_all0) rfl (by decide) (by decide)) (g := (mkF m 16 #[.val (.int wn), .val (.int wa), .val (.int wb), .val (.int wc)] [(.ref b103), (.ref b102), (.ref b102)])) rfl (by rw [hml]; rfl) (Steps.refl _) (a := b102) (argsL := [(.ref b103)]) (rest := [(.ref b102)]) (lenOf own_pd0 rfl) rfl (by show 2 * 0 + _ ≤ _; exact Nat.le_of_eq rfl) (hb hby own_d_m3_16) (fun _ _ => ⟨rfl, e104, (by decide : 2 + 1 ≤ _), (by decide : 5 + 1 ≤ _)⟩)
    dsimp only [Pt.U, Pt.locs, Pt.cells, Pt.slots] at X105 l105 y105 z105 st105 hQ105
    subst l105 y105 z105
    obtain ⟨hv105, N105q, K105, gE105, gC105, u105, kb105, ua105, ub105, uc105, gV105, gK105⟩ := hQ105
    subst hv105
    obtain ⟨h105, e105⟩ : ∃ z, T105.heap = z := ⟨_, rfl⟩
    rw [e105] at K105 gE105 gC105 gV105 gK105
    have Xo105 : Old Z n0 h105 := Xo104.keep K105 (allS ge_b102 all0)
    have KK105 : Keep h0 h105 [] := KK104.trans K105 (allS (Or.inr sz_b102) all0)
    have N105 := Fr.app N104 N105q
    have ge_u105 : n0 ≤ u105 := Nat.le_trans (own_ole Xo104) ub105
    have sz_u105 : h0.size ≤ u105 := Nat.le_trans KK104.1 ub105
    have Fs105 : own_Str Z h105 b102 u105 ([wa] : List Int32) := own_mkStr0 gE105 gV105 gC105 gK105 rfl (own_allS ha own_all0) (Nat.le_of_ble_eq_true rfl)
    refine own_to (V := T105.setTop (mkF m 19 #[.val (.int wn), .val (.int wa), .val (.int wb), .val (.int wc)] [(.ref b102)])) ?_ (fun t k => st105.trans k)
    exact own_retR X105 hx hret (by decide) rfl hlk (hb hby own_d_m3_19) (by rw [e105]; exact (⟨b102, u105, rfl, N105, KK105, sz_b102, sz_u105, (Ne.symm uc105), (by simpa [own_word, hc2_101] using Fs105)⟩)) (by decide) (by decide)
  · skip
    refine own_to (V := s₁.setTop (mkF m 22 #[.val (.int wn), .val (.int wa), .val (.int wb), .val (.int wc)] [(.int (2 : Int32)), (.int wn)])) ?_ fun t k => (by
      refine XS.icmpYes X0.here hx rfl (pc0 := 2) (pc' := 20) rfl (hb hby own_d_m3_2) rfl (feq (hc2_101 : ¬ (wn = (1 : Int32)))).2 (by decide) (by decide) ?_
      refine XS.iloadN X0.here hx rfl (hb hby own_d_m3_20) rfl ?_
      refine XS.iconst X0.here hx rfl (hb hby own_d_m3_21) ?_
      exact k)
    by_cases hc22_109 : wn = (2 : Int32)
    · skip
      refine own_to (V := s₁.setTop (mkF m 25 #[.val (.int wn), .val (.int wa), .val (.int wb), .val (.int wc)] [])) ?_ fun t k => (by
        refine XS.icmpNo X0.here hx rfl (hb hby own_d_m3_22) rfl (teq (hc22_109 : wn = (2 : Int32))).2 ?_
        exact k)
      obtain ⟨T110, h110, X110, e110, E110, A110, D110, U110, st110⟩ := newO X0 hx hZ hown (hw _ (List.mem_of_getElem? (i := 5) rfl)) (hw _ (List.mem_of_getElem? (i := 6) rfl)) (hw _ (List.mem_of_getElem? (i := 7) rfl)) e0 (g := (mkF m 25 #[.val (.int wn), .val (.int wa), .val (.int wb), .val (.int wc)] [])) rfl (hb hby own_d_m3_25) (by decide) (by decide)
      obtain ⟨b110, g110⟩ : ∃ z, z = h0.size := ⟨_, rfl⟩
      rw [← g110] at A110 D110 U110 st110
      have Xo110 : Old Z n0 h110 := X00.ext E110
      have KK110 : Keep h0 h110 [] := KK0.ext E110
      have ge_b110 : n0 ≤ b110 := Nat.le_trans (own_ole X00) (Nat.le_of_eq g110.symm)
      have sz_b110 : h0.size ≤ b110 := Nat.le_trans KK0.1 (Nat.le_of_eq g110.symm)
      have Fi110_32 : Fld Z h110 b110 "java/lang/String" "coder" "B" (.int (0 : Int32)) := D110 (Or.inr (hw _ (List.mem_of_getElem? (i := 32) rfl))) (ty := .byte) (by decide)
      have Fi110_34 : Fld Z h110 b110 "java/lang/String" "value" "[B" .null := D110 (Or.inr (hw _ (List.mem_of_getElem? (i := 34) rfl))) (ty := (.array .byte)) (by decide)
      refine own_to (V := T110.setTop (mkF m 28 #[.val (.int wn), .val (.int wa), .val (.int wb), .val (.int wc)] [(.ref b110)])) ?_ st110
      refine own_to (V := T110.setTop (mkF m 30 #[.val (.int wn), .val (.int wa), .val (.int wb), .val (.int wc)] [(.int (2 : Int32)), (.ref b110), (.ref b110)])) ?_ fun t k => (by
        refine XS.dup X110.here hx rfl (hb hby own_d_m3_28) rfl rfl ?_
        refine XS.iconst X110.here hx rfl (hb hby own_d_m3_29) ?_
        exact k)
      obtain ⟨T111, h111, k111, X111, e111, E111, A111, st111⟩ := newP X110 hx hZ (hw _ (List.mem_of_getElem? (i := 8) rfl)) e110 (g := (mkF m 30 #[.val (.int wn), .val (.int wa), .val (.int wb), .val (.int wc)] [(.int (2 : Int32)), (.ref b110), (.ref b110)])) rfl (hb hby own_d_m3_30) rfl (by decide) (cap := 2) (by decide) (by decide) (by decide) (by decide)
      obtain ⟨b111, g111⟩ : ∃ z, z = h110.size := ⟨_, rfl⟩
      rw [← g111] at A111 st111
      have Xo111 : Old Z n0 h111 := Xo110.ext E111
      have KK111 : Keep h0 h111 [] := KK110.ext E111
      have ge_b111 : n0 ≤ b111 := Nat.le_trans (own_ole Xo110) (Nat.le_of_eq g111.symm)
      have sz_b111 : h0.size ≤ b111 := Nat.le_trans KK110.1 (Nat.le_of_eq g111.symm)
      have V111 : Arv Z h111 b111 k111 .char (2 : Int32) [(.int (0 : Int32)), (.int (0 : Int32))] (.int (0 : Int32)) := (Arv.new A111 (by decide)).pad (pad_rep [] (.int (0 : Int32)) 2)
      refine own_to (V := T111.setTop (mkF m 32 #[.val (.int wn), .val (.int wa), .val (.int wb), .val (.int wc)] [(.ref b111), (.ref b110), (.ref b110)])) ?_ st111
      refine own_to (V := T111.setTop (mkF m 35 #[.val (.int wn), .val (.int wa), .val (.int wb), .val (.int wc)] [(.int wa), (.int (0 : Int32)), (.ref b111), (.ref b111), (.ref b110), (.ref b110)])) ?_ fun t k => (by
        refine XS.dup X111.here hx rfl (hb hby own_d_m3_32) rfl rfl ?_
        refine XS.iconst X111.here hx rfl (hb hby own_d_m3_33) ?_
        refine XS.iloadN X111.here hx rfl (hb hby own_d_m3_34) rfl ?_
        exact k)
      obtain ⟨cl112, Ar112, q112, S112, M112, H112, G112⟩ := id V111
      obtain ⟨T112, h112, X112, e112, W112, st112⟩ := stC X111 hx hZ e111 Ar112 (j := (0 : Int32)) (inb_of S112 ⟨by decide, by decide⟩) (g := (mkF m 35 #[.val (.int wn), .val (.int wa), .val (.int wb), .val (.int wc)] [(.int wa), (.int (0 : Int32)), (.ref b111), (.ref b111), (.ref b110), (.ref b110)])) rfl rfl (hb hby own_d_m3_35)
      rw [own_narC (own_up ha)] at W112
      have Xo112 : Old Z n0 h112 := Xo111.wr W112 ge_b111
      have KK112 : Keep h0 h112 [] := KK111.wr W112 (Or.inr sz_b111)
      have V112 : Arv Z h112 b111 k111 .char (2 : Int32) [(.int wa), (.int (0 : Int32))] (.int (0 : Int32)) := Arv.set Ar112 q112 S112 M112 H112 G112 (own_fitC (own_up ha)) W112 0 rfl (Nat.le_of_ble_eq_true rfl)
      have N112 := Fr.snoc X112 N0 ge_b111
      refine own_to (V := T112.setTop (mkF m 36 #[.val (.int wn), .val (.int wa), .val (.int wb), .val (.int wc)] [(.ref b111), (.ref b110), (.ref b110)])) ?_ st112
      refine own_to (V := T112.setTop (mkF m 39 #[.val (.int wn), .val (.int wa), .val (.int wb), .val (.int wc)] [(.int wb), (.int (1 : Int32)), (.ref b111), (.ref b111), (.ref b110), (.ref b110)])) ?_ fun t k => (by
        refine XS.dup X112.here hx rfl (hb hby own_d_m3_36) rfl rfl ?_
        refine XS.iconst X112.here hx rfl (hb hby own_d_m3_37) ?_
        refine XS.iloadN X112.here hx rfl (hb hby own_d_m3_38) rfl ?_
        exact k)
      obtain ⟨cl113, Ar113, q113, S113, M113, H113, G113⟩ := id V112
      obtain ⟨T113, h113, X113, e113, W113, st113⟩ := stC X112 hx hZ e112 Ar113 (j := (1 : Int32)) (inb_of S113 ⟨by decide, by decide⟩) (g := (mkF m 39 #[.val (.int wn), .val (.int wa), .val (.int wb), .val (.int wc)] [(.int wb), (.int (1 : Int32)), (.ref b111), (.ref b111), (.ref b110), (.ref b110)])) rfl rfl (hb hby own_d_m3_39)
      rw [own_narC (own_up hbb)] at W113
      have Xo113 : Old Z n0 h113 := Xo112.wr W113 ge_b111
      have KK113 : Keep h0 h113 [] := KK112.wr W113 (Or.inr sz_b111)
      have V113 : Arv Z h113 b111 k111 .char (2 : Int32) [(.int wa), (.int wb)] (.int (0 : Int32)) := Arv.set Ar113 q113 S113 M113 H113 G113 (own_fitC (own_up hbb)) W113 1 rfl (Nat.le_of_ble_eq_true rfl)
      have N113 := Fr.snoc X113 N112 ge_b111
      refine own_to (V := T113.setTop (mkF m 40 #[.val (.int wn), .val (.int wa), .val (.int wb), .val (.int wc)] [(.ref b111), (.ref b110), (.ref b110)])) ?_ st113
      have F115 : Exa Z h113 b110 "java/lang/String" := (((A110.ext E111).wr W112).wr W113)
      have F116 : Fld Z h113 b110 "java/lang/String" "value" "[B" .null := (((Fi110_34.ext E111).other W112 (Or.inl (Nat.ne_of_lt (Nat.lt_of_lt_of_le A110.lt (Nat.le_of_eq g111.symm))))).other W113 (Or.inl (Nat.ne_of_lt (Nat.lt_of_lt_of_le A110.lt (Nat.le_of_eq g111.symm)))))
      have F117 : Fld Z h113 b110 "java/lang/String" "coder" "B" (.int (0 : Int32)) := (((Fi110_32.ext E111).other W112 (Or.inl (Nat.ne_of_lt (Nat.lt_of_lt_of_le A110.lt (Nat.le_of_eq g111.symm))))).other W113 (Or.inl (Nat.ne_of_lt (Nat.lt_of_lt_of_le A110.lt (Nat.le_of_eq g111.symm)))))
      obtain ⟨_, _, ⟨T114, L114, k114, n114⟩, -, X114, ⟨Lc114, hQ114, l114, y114, z114⟩, st114⟩ := X113.specialBack hx (y := (⟨"java/lang/String", "<init>", "([C)V"⟩ : MethodName)) rfl hown (mvT hZ (hw _ (List.mem_of_getElem? (i := 9) rfl))) (mvT hZ (hw _ (List.mem_of_getElem? (i := 10) rfl))) (mvT hZ (hw _ (List.mem_of_getElem? (i := 11) rfl))) (by decide) (StrChars.Road.backV (W := 1) hZ (own_hws hw) (kI := 4) (hw _ (List.mem_of_getElem? (i := 6) rfl)) (cs := ([wa, wb] : List Int32)) (bs := ([wa, wb] : List Int32).map (fun c => c.toInt8.toInt32)) (n := 2) ge_b110 (own_ole Xo113) F115 F116 F117 V113 (O2.ext Xo113.2) P5 rfl rfl (by decide) (by decide) (own_allS ha (own_allS hbb own_all0)) rfl (by decide) (by decide)) (g := (mkF m 40 #[.val (.int wn), .val (.int wa), .val (.int wb), .val (.int wc)] [(.ref b111), (.ref b110), (.ref b110)])) rfl (by rw [hml]; rfl) (Steps.refl _) (a := b110) (argsL := [(.ref b111)]) (rest := [(.ref b110)]) (lenOf own_pd0 rfl) rfl (by show 2 * 0 + _ ≤ _; exact Nat.le_of_eq rfl) (hb hby own_d_m3_40) (fun _ _ => ⟨rfl, e113, (by decide : 2 + 1 ≤ _), (by decide : 6 + 2 ≤ _)⟩)
      dsimp only [Pt.U, Pt.locs, Pt.cells, Pt.slots] at X114 l114 y114 z114 st114 hQ114
      subst l114 y114 z114
      obtain ⟨hv114, N114q, K114, gE114, gC114, u114, kb114, ua114, ub114, uc114, gV114, gK114⟩ := hQ114
      subst hv114
      obtain ⟨h114, e114⟩ : ∃ z, T114.heap = z := ⟨_, rfl⟩
      rw [e114] at K114 gE114 gC114 gV114 gK114
      have Xo114 : Old Z n0 h114 := Xo113.keep K114 (allS ge_b110 all0)
      have KK114 : Keep h0 h114 [] := KK113.trans K114 (allS (Or.inr sz_b110) all0)
      have N114 := Fr.app N113 N114q
      have ge_u114 : n0 ≤ u114 := Nat.le_trans (own_ole Xo113) ub114
      have sz_u114 : h0.size ≤ u114 := Nat.le_trans KK113.1 ub114
      have Fs114 : own_Str Z h114 b110 u114 ([wa, wb] : List Int32) := own_mkStr0 gE114 gV114 gC114 gK114 rfl (own_allS ha (own_allS hbb own_all0)) (Nat.le_of_ble_eq_true rfl)
      refine own_to (V := T114.setTop (mkF m 43 #[.val (.int wn), .val (.int wa), .val (.int wb), .val (.int wc)] [(.ref b110)])) ?_ (fun t k => st114.trans k)
      exact own_retR X114 hx hret (by decide) rfl hlk (hb hby own_d_m3_43) (by rw [e114]; exact (⟨b110, u114, rfl, N114, KK114, sz_b110, sz_u114, (Ne.symm uc114), (by simpa [own_word, hc2_101, hc22_109] using Fs114)⟩)) (by decide) (by decide)
    · skip
      refine own_to (V := s₁.setTop (mkF m 44 #[.val (.int wn), .val (.int wa), .val (.int wb), .val (.int wc)] [])) ?_ fun t k => (by
        refine XS.icmpYes X0.here hx rfl (pc0 := 22) (pc' := 44) rfl (hb hby own_d_m3_22) rfl (feq (hc22_109 : ¬ (wn = (2 : Int32)))).2 (by decide) (by decide) ?_
        exact k)
      obtain ⟨T118, h118, X118, e118, E118, A118, D118, U118, st118⟩ := newO X0 hx hZ hown (hw _ (List.mem_of_getElem? (i := 5) rfl)) (hw _ (List.mem_of_getElem? (i := 6) rfl)) (hw _ (List.mem_of_getElem? (i := 7) rfl)) e0 (g := (mkF m 44 #[.val (.int wn), .val (.int wa), .val (.int wb), .val (.int wc)] [])) rfl (hb hby own_d_m3_44) (by decide) (by decide)
      obtain ⟨b118, g118⟩ : ∃ z, z = h0.size := ⟨_, rfl⟩
      rw [← g118] at A118 D118 U118 st118
      have Xo118 : Old Z n0 h118 := X00.ext E118
      have KK118 : Keep h0 h118 [] := KK0.ext E118
      have ge_b118 : n0 ≤ b118 := Nat.le_trans (own_ole X00) (Nat.le_of_eq g118.symm)
      have sz_b118 : h0.size ≤ b118 := Nat.le_trans KK0.1 (Nat.le_of_eq g118.symm)
      have Fi118_32 : Fld Z h118 b118 "java/lang/String" "coder" "B" (.int (0 : Int32)) := D118 (Or.inr (hw _ (List.mem_of_getElem? (i := 32) rfl))) (ty := .byte) (by decide)
      have Fi118_34 : Fld Z h118 b118 "java/lang/String" "value" "[B" .null := D118 (Or.inr (hw _ (List.mem_of_getElem? (i := 34) rfl))) (ty := (.array .byte)) (by decide)
      refine own_to (V := T118.setTop (mkF m 47 #[.val (.int wn), .val (.int wa), .val (.int wb), .val (.int wc)] [(.ref b118)])) ?_ st118
      refine own_to (V := T118.setTop (mkF m 49 #[.val (.int wn), .val (.int wa), .val (.int wb), .val (.int wc)] [(.int (3 : Int32)), (.ref b118), (.ref b118)])) ?_ fun t k => (by
        refine XS.dup X118.here hx rfl (hb hby own_d_m3_47) rfl rfl ?_
        refine XS.iconst X118.here hx rfl (hb hby own_d_m3_48) ?_
        exact k)
      obtain ⟨T119, h119, k119, X119, e119, E119, A119, st119⟩ := newP X118 hx hZ (hw _ (List.mem_of_getElem? (i := 8) rfl)) e118 (g := (mkF m 49 #[.val (.int wn), .val (.int wa), .val (.int wb), .val (.int wc)] [(.int (3 : Int32)), (.ref b118), (.ref b118)])) rfl (hb hby own_d_m3_49) rfl (by decide) (cap := 3) (by decide) (by decide) (by decide) (by decide)
      obtain ⟨b119, g119⟩ : ∃ z, z = h118.size := ⟨_, rfl⟩
      rw [← g119] at A119 st119
      have Xo119 : Old Z n0 h119 := Xo118.ext E119
      have KK119 : Keep h0 h119 [] := KK118.ext E119
      have ge_b119 : n0 ≤ b119 := Nat.le_trans (own_ole Xo118) (Nat.le_of_eq g119.symm)
      have sz_b119 : h0.size ≤ b119 := Nat.le_trans KK118.1 (Nat.le_of_eq g119.symm)
      have V119 : Arv Z h119 b119 k119 .char (3 : Int32) [(.int (0 : Int32)), (.int (0 : Int32)), (.int (0 : Int32))] (.int (0 : Int32)) := (Arv.new A119 (by decide)).pad (pad_rep [] (.int (0 : Int32)) 3)
      refine own_to (V := T119.setTop (mkF m 51 #[.val (.int wn), .val (.int wa), .val (.int wb), .val (.int wc)] [(.ref b119), (.ref b118), (.ref b118)])) ?_ st119
      refine own_to (V := T119.setTop (mkF m 54 #[.val (.int wn), .val (.int wa), .val (.int wb), .val (.int wc)] [(.int wa), (.int (0 : Int32)), (.ref b119), (.ref b119), (.ref b118), (.ref b118)])) ?_ fun t k => (by
        refine XS.dup X119.here hx rfl (hb hby own_d_m3_51) rfl rfl ?_
        refine XS.iconst X119.here hx rfl (hb hby own_d_m3_52) ?_
        refine XS.iloadN X119.here hx rfl (hb hby own_d_m3_53) rfl ?_
        exact k)
      obtain ⟨cl120, Ar120, q120, S120, M120, H120, G120⟩ := id V119
      obtain ⟨T120, h120, X120, e120, W120, st120⟩ := stC X119 hx hZ e119 Ar120 (j := (0 : Int32)) (inb_of S120 ⟨by decide, by decide⟩) (g := (mkF m 54 #[.val (.int wn), .val (.int wa), .val (.int wb), .val (.int wc)] [(.int wa), (.int (0 : Int32)), (.ref b119), (.ref b119), (.ref b118), (.ref b118)])) rfl rfl (hb hby own_d_m3_54)
      rw [own_narC (own_up ha)] at W120
      have Xo120 : Old Z n0 h120 := Xo119.wr W120 ge_b119
      have KK120 : Keep h0 h120 [] := KK119.wr W120 (Or.inr sz_b119)
      have V120 : Arv Z h120 b119 k119 .char (3 : Int32) [(.int wa), (.int (0 : Int32)), (.int (0 : Int32))] (.int (0 : Int32)) := Arv.set Ar120 q120 S120 M120 H120 G120 (own_fitC (own_up ha)) W120 0 rfl (Nat.le_of_ble_eq_true rfl)
      have N120 := Fr.snoc X120 N0 ge_b119
      refine own_to (V := T120.setTop (mkF m 55 #[.val (.int wn), .val (.int wa), .val (.int wb), .val (.int wc)] [(.ref b119), (.ref b118), (.ref b118)])) ?_ st120
      refine own_to (V := T120.setTop (mkF m 58 #[.val (.int wn), .val (.int wa), .val (.int wb), .val (.int wc)] [(.int wb), (.int (1 : Int32)), (.ref b119), (.ref b119), (.ref b118), (.ref b118)])) ?_ fun t k => (by
        refine XS.dup X120.here hx rfl (hb hby own_d_m3_55) rfl rfl ?_
        refine XS.iconst X120.here hx rfl (hb hby own_d_m3_56) ?_
        refine XS.iloadN X120.here hx rfl (hb hby own_d_m3_57) rfl ?_
        exact k)
      obtain ⟨cl121, Ar121, q121, S121, M121, H121, G121⟩ := id V120
      obtain ⟨T121, h121, X121, e121, W121, st121⟩ := stC X120 hx hZ e120 Ar121 (j := (1 : Int32)) (inb_of S121 ⟨by decide, by decide⟩) (g := (mkF m 58 #[.val (.int wn), .val (.int wa), .val (.int wb), .val (.int wc)] [(.int wb), (.int (1 : Int32)), (.ref b119), (.ref b119), (.ref b118), (.ref b118)])) rfl rfl (hb hby own_d_m3_58)
      rw [own_narC (own_up hbb)] at W121
      have Xo121 : Old Z n0 h121 := Xo120.wr W121 ge_b119
      have KK121 : Keep h0 h121 [] := KK120.wr W121 (Or.inr sz_b119)
      have V121 : Arv Z h121 b119 k119 .char (3 : Int32) [(.int wa), (.int wb), (.int (0 : Int32))] (.int (0 : Int32)) := Arv.set Ar121 q121 S121 M121 H121 G121 (own_fitC (own_up hbb)) W121 1 rfl (Nat.le_of_ble_eq_true rfl)
      have N121 := Fr.snoc X121 N120 ge_b119
      refine own_to (V := T121.setTop (mkF m 59 #[.val (.int wn), .val (.int wa), .val (.int wb), .val (.int wc)] [(.ref b119), (.ref b118), (.ref b118)])) ?_ st121
      refine own_to (V := T121.setTop (mkF m 62 #[.val (.int wn), .val (.int wa), .val (.int wb), .val (.int wc)] [(.int wc), (.int (2 : Int32)), (.ref b119), (.ref b119), (.ref b118), (.ref b118)])) ?_ fun t k => (by
        refine XS.dup X121.here hx rfl (hb hby own_d_m3_59) rfl rfl ?_
        refine XS.iconst X121.here hx rfl (hb hby own_d_m3_60) ?_
        refine XS.iloadN X121.here hx rfl (hb hby own_d_m3_61) rfl ?_
        exact k)
      obtain ⟨cl122, Ar122, q122, S122, M122, H122, G122⟩ := id V121
      obtain ⟨T122, h122, X122, e122, W122, st122⟩ := stC X121 hx hZ e121 Ar122 (j := (2 : Int32)) (inb_of S122 ⟨by decide, by decide⟩) (g := (mkF m 62 #[.val (.int wn), .val (.int wa), .val (.int wb), .val (.int wc)] [(.int wc), (.int (2 : Int32)), (.ref b119), (.ref b119), (.ref b118), (.ref b118)])) rfl rfl (hb hby own_d_m3_62)
      rw [own_narC (own_up hc)] at W122
      have Xo122 : Old Z n0 h122 := Xo121.wr W122 ge_b119
      have KK122 : Keep h0 h122 [] := KK121.wr W122 (Or.inr sz_b119)
      have V122 : Arv Z h122 b119 k119 .char (3 : Int32) [(.int wa), (.int wb), (.int wc)] (.int (0 : Int32)) := Arv.set Ar122 q122 S122 M122 H122 G122 (own_fitC (own_up hc)) W122 2 rfl (Nat.le_of_ble_eq_true rfl)
      have N122 := Fr.snoc X122 N121 ge_b119
      refine own_to (V := T122.setTop (mkF m 63 #[.val (.int wn), .val (.int wa), .val (.int wb), .val (.int wc)] [(.ref b119), (.ref b118), (.ref b118)])) ?_ st122
      have F124 : Exa Z h122 b118 "java/lang/String" := ((((A118.ext E119).wr W120).wr W121).wr W122)
      have F125 : Fld Z h122 b118 "java/lang/String" "value" "[B" .null := ((((Fi118_34.ext E119).other W120 (Or.inl (Nat.ne_of_lt (Nat.lt_of_lt_of_le A118.lt (Nat.le_of_eq g119.symm))))).other W121 (Or.inl (Nat.ne_of_lt (Nat.lt_of_lt_of_le A118.lt (Nat.le_of_eq g119.symm))))).other W122 (Or.inl (Nat.ne_of_lt (Nat.lt_of_lt_of_le A118.lt (Nat.le_of_eq g119.symm)))))
      have F126 : Fld Z h122 b118 "java/lang/String" "coder" "B" (.int (0 : Int32)) := ((((Fi118_32.ext E119).other W120 (Or.inl (Nat.ne_of_lt (Nat.lt_of_lt_of_le A118.lt (Nat.le_of_eq g119.symm))))).other W121 (Or.inl (Nat.ne_of_lt (Nat.lt_of_lt_of_le A118.lt (Nat.le_of_eq g119.symm))))).other W122 (Or.inl (Nat.ne_of_lt (Nat.lt_of_lt_of_le A118.lt (Nat.le_of_eq g119.symm)))))
      obtain ⟨_, _, ⟨T123, L123, k123, n123⟩, -, X123, ⟨Lc123, hQ123, l123, y123, z123⟩, st123⟩ := X122.specialBack hx (y := (⟨"java/lang/String", "<init>", "([C)V"⟩ : MethodName)) rfl hown (mvT hZ (hw _ (List.mem_of_getElem? (i := 9) rfl))) (mvT hZ (hw _ (List.mem_of_getElem? (i := 10) rfl))) (mvT hZ (hw _ (List.mem_of_getElem? (i := 11) rfl))) (by decide) (StrChars.Road.backV (W := 1) hZ (own_hws hw) (kI := 4) (hw _ (List.mem_of_getElem? (i := 6) rfl)) (cs := ([wa, wb, wc] : List Int32)) (bs := ([wa, wb, wc] : List Int32).map (fun c => c.toInt8.toInt32)) (n := 3) ge_b118 (own_ole Xo122) F124 F125 F126 V122 (O2.ext Xo122.2) P5 rfl rfl (by decide) (by decide) (own_allS ha (own_allS hbb (own_allS hc own_all0))) rfl (by decide) (by decide)) (g := (mkF m 63 #[.val (.int wn), .val (.int wa), .val (.int wb), .val (.int wc)] [(.ref b119), (.ref b118), (.ref b118)])) rfl (by rw [hml]; rfl) (Steps.refl _) (a := b118) (argsL := [(.ref b119)]) (rest := [(.ref b118)]) (lenOf own_pd0 rfl) rfl (by show 2 * 0 + _ ≤ _; exact Nat.le_of_eq rfl) (hb hby own_d_m3_63) (fun _ _ => ⟨rfl, e122, (by decide : 2 + 1 ≤ _), (by decide : 7 + 3 ≤ _)⟩)
      dsimp only [Pt.U, Pt.locs, Pt.cells, Pt.slots] at X123 l123 y123 z123 st123 hQ123
      subst l123 y123 z123
      obtain ⟨hv123, N123q, K123, gE123, gC123, u123, kb123, ua123, ub123, uc123, gV123, gK123⟩ := hQ123
      subst hv123
      obtain ⟨h123, e123⟩ : ∃ z, T123.heap = z := ⟨_, rfl⟩
      rw [e123] at K123 gE123 gC123 gV123 gK123
      have Xo123 : Old Z n0 h123 := Xo122.keep K123 (allS ge_b118 all0)
      have KK123 : Keep h0 h123 [] := KK122.trans K123 (allS (Or.inr sz_b118) all0)
      have N123 := Fr.app N122 N123q
      have ge_u123 : n0 ≤ u123 := Nat.le_trans (own_ole Xo122) ub123
      have sz_u123 : h0.size ≤ u123 := Nat.le_trans KK122.1 ub123
      have Fs123 : own_Str Z h123 b118 u123 ([wa, wb, wc] : List Int32) := own_mkStr0 gE123 gV123 gC123 gK123 rfl (own_allS ha (own_allS hbb (own_allS hc own_all0))) (Nat.le_of_ble_eq_true rfl)
      refine own_to (V := T123.setTop (mkF m 66 #[.val (.int wn), .val (.int wa), .val (.int wb), .val (.int wc)] [(.ref b118)])) ?_ (fun t k => st123.trans k)
      exact own_retR X123 hx hret (by decide) rfl hlk (hb hby own_d_m3_66) (by rw [e123]; exact (⟨b118, u123, rfl, N123, KK123, sz_b118, sz_u123, (Ne.symm uc123), (by simpa [own_word, hc2_101, hc22_109] using Fs123)⟩)) (by decide) (by decide)
def own_Qrole (Z : State) (wk : Int32) (rA : Addr) (rB : Addr) (rC : Addr) (rD : Addr) (rE : Addr) (h0 : Heap) (n0 : Nat) (v : Option Value) (h : Heap) (L : List Loc) : Prop := (∃ (rv : Value), v = some rv ∧ Fr n0 L ∧ Keep h0 h [] ∧ (rv = own_roleV rA rB rC rD rE wk) ∧ (rv.isRef = true))
theorem own_ef_role (m : MethodId) (wk : Int32)  : entryFrame m #[(.int wk)] 1 = mkF m 0 #[.val (.int wk)] [] := by first | (simp [entryFrame, mkF, argsToLocals, Value.category]; done) | rfl
set_option maxRecDepth 65536 in
set_option maxHeartbeats 40000000 in
theorem own_rmrole (l : Launch) (Z : State) (a0 : Array Value) (hw : ∀ d ∈ tables_1, d.before a0 Z = true) (hst : own_St Z) (ws : List Jvm.Cond) (wk : Int32) (rA : Addr) (rB : Addr) (rC : Addr) (rD : Addr) (rE : Addr) (h0 : Heap) (n0 : Nat) (X00 : Old Z n0 h0) (hR : own_Roles Z rA rB rC rD rE) :
    MetFree l (⟨"com/example/eager_query/eagerquery/model/ElementEqualsPinLaw", "role", "(I)Lcom/example/eager_query/eagerquery/model/Role;"⟩ : MethodName) (head1 (Jvm.Cond.code (⟨"com/example/eager_query/eagerquery/model/ElementEqualsPinLaw", "role", "(I)Lcom/example/eager_query/eagerquery/model/Role;"⟩ : MethodName) method_2_code 1 (Option.some (Jvm.ClassFile.FieldType.object "com/example/eager_query/eagerquery/model/Role")) :: ws) ({ frames := 0, cells := 0, slots := 0, locals := 0 } : Room)) (fun a U => a = #[(.int wk)] ∧ Z.Warmed39 U.vm ∧ U.heap = h0) (fun _ _ _ _ _ => True) (fun _ U o U' => ∃ v L, o = .returned v ∧ own_Qrole Z wk rA rB rC rD rE h0 n0 v U'.heap L ∧ FrameEnd U o U' L ({ frames := 0, cells := 0, slots := 0, locals := 0 } : Room).cells ({ frames := 0, cells := 0, slots := 0, locals := 0 } : Room).slots) := by
  refine MetFree.of_bodySF (plainFor_of_name own_pn0) hisR ?_
  intro p e s m args below meth c s₁ Bd hml0 hP hK
  obtain ⟨rfl, hZ, hh⟩ := hP
  have hx := Bd.exec
  have hby := Bd.bytes
  have hret := Bd.returns
  have hlk : meth.locks = false := BodyLoose.notSynchronized Bd
  have hml : c.maxLocals = 1 := hml0
  have hown : s.vm.findClass "com/example/eager_query/eagerquery/model/ElementEqualsPinLaw" = some m.cls := findClass_of_methodNamed Bd.named
  have hnm := (name_of_methodNamed Bd.named Bd.method).1
  have X0 : Stand p l e ({ frames := 0, cells := 0, slots := 0, locals := 0 } : Room) s m #[(.int wk)] below meth c s₁ [] 0 0 := Stand.of_body Bd
  have e0 : s₁.heap = h0 := by rw [← hh, Bd.state]; rfl
  have N0 := Fr.nil n0
  have KK0 : Keep h0 h0 [] := Keep.refl h0 _
  refine own_start (own_Qrole Z wk rA rB rC rD rE h0 n0) ?_
  refine own_to (V := s₁.setTop (mkF m 0 #[.val (.int wk)] [])) ?_ (fun t k => castTop (own_ef_role m wk ) k)
  obtain ⟨⟨G1, O2, P5⟩, ⟨G3, O4, rG3⟩, -⟩ := id hst
  refine own_to (V := s₁.setTop (mkF m 2 #[.val (.int wk)] [(.int (1 : Int32)), (.int wk)])) ?_ fun t k => (by
    refine XS.iloadN X0.here hx rfl (hb hby own_d_m2_0) rfl ?_
    refine XS.iconst X0.here hx rfl (hb hby own_d_m2_1) ?_
    exact k)
  by_cases hc2_101 : wk = (1 : Int32)
  · skip
    refine own_to (V := s₁.setTop (mkF m 5 #[.val (.int wk)] [])) ?_ fun t k => (by
      refine XS.icmpNo X0.here hx rfl (hb hby own_d_m2_2) rfl (teq (hc2_101 : wk = (1 : Int32))).2 ?_
      exact k)
    obtain ⟨T102, X102, e102, st102⟩ := getS2 X0 hx hZ hown (host := "") (Or.inl (hw _ (List.mem_of_getElem? (i := 41) rfl))) Via.refl e0 (hR.1.ext X00.2) (g := (mkF m 5 #[.val (.int wk)] [])) rfl (hb hby own_d_m2_5)
    refine own_to (V := T102.setTop (mkF m 8 #[.val (.int wk)] [(.ref rA)])) ?_ st102
    exact own_retR X102 hx hret (by decide) rfl hlk (hb hby own_d_m2_8) (by rw [e102]; exact (⟨(.ref rA), rfl, N0, KK0, (by simp [own_roleV, hc2_101]), rfl⟩)) (by decide) (by decide)
  · skip
    refine own_to (V := s₁.setTop (mkF m 11 #[.val (.int wk)] [(.int (2 : Int32)), (.int wk)])) ?_ fun t k => (by
      refine XS.icmpYes X0.here hx rfl (pc0 := 2) (pc' := 9) rfl (hb hby own_d_m2_2) rfl (feq (hc2_101 : ¬ (wk = (1 : Int32)))).2 (by decide) (by decide) ?_
      refine XS.iloadN X0.here hx rfl (hb hby own_d_m2_9) rfl ?_
      refine XS.iconst X0.here hx rfl (hb hby own_d_m2_10) ?_
      exact k)
    by_cases hc11_103 : wk = (2 : Int32)
    · skip
      refine own_to (V := s₁.setTop (mkF m 14 #[.val (.int wk)] [])) ?_ fun t k => (by
        refine XS.icmpNo X0.here hx rfl (hb hby own_d_m2_11) rfl (teq (hc11_103 : wk = (2 : Int32))).2 ?_
        exact k)
      obtain ⟨T104, X104, e104, st104⟩ := getS2 X0 hx hZ hown (host := "") (Or.inl (hw _ (List.mem_of_getElem? (i := 74) rfl))) Via.refl e0 (hR.2.1.ext X00.2) (g := (mkF m 14 #[.val (.int wk)] [])) rfl (hb hby own_d_m2_14)
      refine own_to (V := T104.setTop (mkF m 17 #[.val (.int wk)] [(.ref rB)])) ?_ st104
      exact own_retR X104 hx hret (by decide) rfl hlk (hb hby own_d_m2_17) (by rw [e104]; exact (⟨(.ref rB), rfl, N0, KK0, (by simp [own_roleV, hc2_101, hc11_103]), rfl⟩)) (by decide) (by decide)
    · skip
      refine own_to (V := s₁.setTop (mkF m 20 #[.val (.int wk)] [(.int (3 : Int32)), (.int wk)])) ?_ fun t k => (by
        refine XS.icmpYes X0.here hx rfl (pc0 := 11) (pc' := 18) rfl (hb hby own_d_m2_11) rfl (feq (hc11_103 : ¬ (wk = (2 : Int32)))).2 (by decide) (by decide) ?_
        refine XS.iloadN X0.here hx rfl (hb hby own_d_m2_18) rfl ?_
        refine XS.iconst X0.here hx rfl (hb hby own_d_m2_19) ?_
        exact k)
      by_cases hc20_105 : wk = (3 : Int32)
      · skip
        refine own_to (V := s₁.setTop (mkF m 23 #[.val (.int wk)] [])) ?_ fun t k => (by
          refine XS.icmpNo X0.here hx rfl (hb hby own_d_m2_20) rfl (teq (hc20_105 : wk = (3 : Int32))).2 ?_
          exact k)
        obtain ⟨T106, X106, e106, st106⟩ := getS2 X0 hx hZ hown (host := "") (Or.inl (hw _ (List.mem_of_getElem? (i := 81) rfl))) Via.refl e0 (hR.2.2.1.ext X00.2) (g := (mkF m 23 #[.val (.int wk)] [])) rfl (hb hby own_d_m2_23)
        refine own_to (V := T106.setTop (mkF m 26 #[.val (.int wk)] [(.ref rC)])) ?_ st106
        exact own_retR X106 hx hret (by decide) rfl hlk (hb hby own_d_m2_26) (by rw [e106]; exact (⟨(.ref rC), rfl, N0, KK0, (by simp [own_roleV, hc2_101, hc11_103, hc20_105]), rfl⟩)) (by decide) (by decide)
      · skip
        refine own_to (V := s₁.setTop (mkF m 29 #[.val (.int wk)] [(.int (4 : Int32)), (.int wk)])) ?_ fun t k => (by
          refine XS.icmpYes X0.here hx rfl (pc0 := 20) (pc' := 27) rfl (hb hby own_d_m2_20) rfl (feq (hc20_105 : ¬ (wk = (3 : Int32)))).2 (by decide) (by decide) ?_
          refine XS.iloadN X0.here hx rfl (hb hby own_d_m2_27) rfl ?_
          refine XS.iconst X0.here hx rfl (hb hby own_d_m2_28) ?_
          exact k)
        by_cases hc29_107 : wk = (4 : Int32)
        · skip
          refine own_to (V := s₁.setTop (mkF m 32 #[.val (.int wk)] [])) ?_ fun t k => (by
            refine XS.icmpNo X0.here hx rfl (hb hby own_d_m2_29) rfl (teq (hc29_107 : wk = (4 : Int32))).2 ?_
            exact k)
          obtain ⟨T108, X108, e108, st108⟩ := getS2 X0 hx hZ hown (host := "") (Or.inl (hw _ (List.mem_of_getElem? (i := 84) rfl))) Via.refl e0 (hR.2.2.2.1.ext X00.2) (g := (mkF m 32 #[.val (.int wk)] [])) rfl (hb hby own_d_m2_32)
          refine own_to (V := T108.setTop (mkF m 35 #[.val (.int wk)] [(.ref rD)])) ?_ st108
          exact own_retR X108 hx hret (by decide) rfl hlk (hb hby own_d_m2_35) (by rw [e108]; exact (⟨(.ref rD), rfl, N0, KK0, (by simp [own_roleV, hc2_101, hc11_103, hc20_105, hc29_107]), rfl⟩)) (by decide) (by decide)
        · skip
          refine own_to (V := s₁.setTop (mkF m 38 #[.val (.int wk)] [(.int (5 : Int32)), (.int wk)])) ?_ fun t k => (by
            refine XS.icmpYes X0.here hx rfl (pc0 := 29) (pc' := 36) rfl (hb hby own_d_m2_29) rfl (feq (hc29_107 : ¬ (wk = (4 : Int32)))).2 (by decide) (by decide) ?_
            refine XS.iloadN X0.here hx rfl (hb hby own_d_m2_36) rfl ?_
            refine XS.iconst X0.here hx rfl (hb hby own_d_m2_37) ?_
            exact k)
          by_cases hc38_109 : wk = (5 : Int32)
          · skip
            refine own_to (V := s₁.setTop (mkF m 41 #[.val (.int wk)] [])) ?_ fun t k => (by
              refine XS.icmpNo X0.here hx rfl (hb hby own_d_m2_38) rfl (teq (hc38_109 : wk = (5 : Int32))).2 ?_
              exact k)
            obtain ⟨T110, X110, e110, st110⟩ := getS2 X0 hx hZ hown (host := "") (Or.inl (hw _ (List.mem_of_getElem? (i := 79) rfl))) Via.refl e0 (hR.2.2.2.2.1.ext X00.2) (g := (mkF m 41 #[.val (.int wk)] [])) rfl (hb hby own_d_m2_41)
            refine own_to (V := T110.setTop (mkF m 44 #[.val (.int wk)] [(.ref rE)])) ?_ st110
            exact own_retR X110 hx hret (by decide) rfl hlk (hb hby own_d_m2_44) (by rw [e110]; exact (⟨(.ref rE), rfl, N0, KK0, (by simp [own_roleV, hc2_101, hc11_103, hc20_105, hc29_107, hc38_109]), rfl⟩)) (by decide) (by decide)
          · skip
            refine own_to (V := s₁.setTop (mkF m 46 #[.val (.int wk)] [.null])) ?_ fun t k => (by
              refine XS.icmpYes X0.here hx rfl (pc0 := 38) (pc' := 45) rfl (hb hby own_d_m2_38) rfl (feq (hc38_109 : ¬ (wk = (5 : Int32)))).2 (by decide) (by decide) ?_
              refine XS.aconstNull X0.here hx rfl (hb hby own_d_m2_45) ?_
              exact k)
            exact own_retR X0 hx hret (by decide) rfl hlk (hb hby own_d_m2_46) (by rw [e0]; exact (⟨.null, rfl, N0, KK0, (by simp [own_roleV, hc2_101, hc11_103, hc20_105, hc29_107, hc38_109]), rfl⟩)) (by decide) (by decide)
def own_Qrnn (Z : State) (oa : Addr) (om : Addr) (h0 : Heap) (n0 : Nat) (v : Option Value) (h : Heap) (L : List Loc) : Prop := (v = some (.ref oa) ∧ Fr n0 L ∧ Keep h0 h [])
theorem own_ef_rnn (m : MethodId) (oa : Addr) (om : Addr)  : entryFrame m #[(.ref oa), (.ref om)] 2 = mkF m 0 #[.val (.ref oa), .val (.ref om)] [] := by first | (simp [entryFrame, mkF, argsToLocals, Value.category]; done) | rfl
set_option maxRecDepth 65536 in
set_option maxHeartbeats 40000000 in
theorem own_rmrnn (l : Launch) (Z : State) (a0 : Array Value) (hw : ∀ d ∈ tables_1, d.before a0 Z = true) (hst : own_St Z) (ws : List Jvm.Cond) (oa : Addr) (om : Addr) (h0 : Heap) (n0 : Nat) (X00 : Old Z n0 h0)  :
    MetFree l (⟨"java/util/Objects", "requireNonNull", "(Ljava/lang/Object;Ljava/lang/String;)Ljava/lang/Object;"⟩ : MethodName) (head1 (Jvm.Cond.code (⟨"java/util/Objects", "requireNonNull", "(Ljava/lang/Object;Ljava/lang/String;)Ljava/lang/Object;"⟩ : MethodName) jdk_31_method_11_code 2 (Option.some (Jvm.ClassFile.FieldType.object "java/lang/Object")) :: ws) ({ frames := 0, cells := 0, slots := 0, locals := 0 } : Room)) (fun a U => a = #[(.ref oa), (.ref om)] ∧ Z.Warmed39 U.vm ∧ U.heap = h0) (fun _ _ _ _ _ => True) (fun _ U o U' => ∃ v L, o = .returned v ∧ own_Qrnn Z oa om h0 n0 v U'.heap L ∧ FrameEnd U o U' L ({ frames := 0, cells := 0, slots := 0, locals := 0 } : Room).cells ({ frames := 0, cells := 0, slots := 0, locals := 0 } : Room).slots) := by
  refine MetFree.of_bodySF (plainFor_of_name own_pn1) hisR ?_
  intro p e s m args below meth c s₁ Bd hml0 hP hK
  obtain ⟨rfl, hZ, hh⟩ := hP
  have hx := Bd.exec
  have hby := Bd.bytes
  have hret := Bd.returns
  have hlk : meth.locks = false := BodyLoose.notSynchronized Bd
  have hml : c.maxLocals = 2 := hml0
  have hown : s.vm.findClass "java/util/Objects" = some m.cls := findClass_of_methodNamed Bd.named
  have hnm := (name_of_methodNamed Bd.named Bd.method).1
  have X0 : Stand p l e ({ frames := 0, cells := 0, slots := 0, locals := 0 } : Room) s m #[(.ref oa), (.ref om)] below meth c s₁ [] 0 0 := Stand.of_body Bd
  have e0 : s₁.heap = h0 := by rw [← hh, Bd.state]; rfl
  have N0 := Fr.nil n0
  have KK0 : Keep h0 h0 [] := Keep.refl h0 _
  refine own_start (own_Qrnn Z oa om h0 n0) ?_
  refine own_to (V := s₁.setTop (mkF m 0 #[.val (.ref oa), .val (.ref om)] [])) ?_ (fun t k => castTop (own_ef_rnn m oa om ) k)
  obtain ⟨⟨G1, O2, P5⟩, ⟨G3, O4, rG3⟩, -⟩ := id hst
  refine own_to (V := s₁.setTop (mkF m 14 #[.val (.ref oa), .val (.ref om)] [(.ref oa)])) ?_ fun t k => (by
    refine XS.aloadN X0.here hx rfl (hb hby own_d_jdk_31_m11_0) rfl rfl ?_
    refine XS.ifnonnullYes X0.here hx rfl (pc0 := 1) (pc' := 13) rfl (hb hby own_d_jdk_31_m11_1) rfl (by decide) (by decide) ?_
    refine XS.aloadN X0.here hx rfl (hb hby own_d_jdk_31_m11_13) rfl rfl ?_
    exact k)
  exact own_retR X0 hx hret (by decide) rfl hlk (hb hby own_d_jdk_31_m11_14) (by rw [e0]; exact (⟨rfl, N0, KK0⟩)) (by decide) (by decide)
def own_Qini2 (Z : State) (ot : Addr) (orr : Addr) (ow : Addr) (h0 : Heap) (n0 : Nat) (v : Option Value) (h : Heap) (L : List Loc) : Prop := (v = none ∧ Fr n0 L ∧ Keep h0 h [ot] ∧ (Fld Z h ot "com/example/eager_query/eagerquery/model/Element" "role" "Lcom/example/eager_query/eagerquery/model/Role;" (.ref orr)) ∧ (Fld Z h ot "com/example/eager_query/eagerquery/model/Element" "word" "Ljava/lang/String;" (.ref ow)))
theorem own_ef_ini2 (m : MethodId) (ot : Addr) (orr : Addr) (ow : Addr)  : entryFrame m #[(.ref ot), (.ref orr), (.ref ow)] 3 = mkF m 0 #[.val (.ref ot), .val (.ref orr), .val (.ref ow)] [] := by first | (simp [entryFrame, mkF, argsToLocals, Value.category]; done) | rfl
set_option maxRecDepth 65536 in
set_option maxHeartbeats 40000000 in
theorem own_rmini2 (l : Launch) (Z : State) (a0 : Array Value) (hw : ∀ d ∈ tables_1, d.before a0 Z = true) (hst : own_St Z) (ws : List Jvm.Cond) (ot : Addr) (orr : Addr) (ow : Addr) (h0 : Heap) (n0 : Nat) (X00 : Old Z n0 h0) (hE : Exa Z h0 ot "com/example/eager_query/eagerquery/model/Element") (hF1 : Fld Z h0 ot "com/example/eager_query/eagerquery/model/Element" "role" "Lcom/example/eager_query/eagerquery/model/Role;" .null) (hF2 : Fld Z h0 ot "com/example/eager_query/eagerquery/model/Element" "word" "Ljava/lang/String;" .null) (hG : n0 ≤ ot) (hEr : Exa Z h0 orr "com/example/eager_query/eagerquery/model/Role") (hEw : Exa Z h0 ow "java/lang/String") :
    MetFree l (⟨"com/example/eager_query/eagerquery/model/Element", "<init>", "(Lcom/example/eager_query/eagerquery/model/Role;Ljava/lang/String;)V"⟩ : MethodName) (head1 (Jvm.Cond.code (⟨"com/example/eager_query/eagerquery/model/Element", "<init>", "(Lcom/example/eager_query/eagerquery/model/Role;Ljava/lang/String;)V"⟩ : MethodName) prog_15_method_2_code 3 (Option.none : Option Jvm.ClassFile.FieldType) :: ws) ({ frames := 1, cells := 4, slots := 40, locals := 14 } : Room)) (fun a U => a = #[(.ref ot), (.ref orr), (.ref ow)] ∧ Z.Warmed39 U.vm ∧ U.heap = h0) (fun _ _ _ _ _ => True) (fun _ U o U' => ∃ v L, o = .returned v ∧ own_Qini2 Z ot orr ow h0 n0 v U'.heap L ∧ ReturnedEndW U o U' L ({ frames := 1, cells := 4, slots := 40, locals := 14 } : Room).cells ({ frames := 1, cells := 4, slots := 40, locals := 14 } : Room).slots) := by
  refine MetFree.of_bodySF (plainFor_of_name own_pn2) hisR ?_
  intro p e s m args below meth c s₁ Bd hml0 hP hK
  obtain ⟨rfl, hZ, hh⟩ := hP
  have hx := Bd.exec
  have hby := Bd.bytes
  have hret := Bd.returns
  have hlk : meth.locks = false := BodyLoose.notSynchronized Bd
  have hml : c.maxLocals = 3 := hml0
  have hown : s.vm.findClass "com/example/eager_query/eagerquery/model/Element" = some m.cls := findClass_of_methodNamed Bd.named
  have hnm := (name_of_methodNamed Bd.named Bd.method).1
  have X0 : Stand p l e ({ frames := 1, cells := 4, slots := 40, locals := 14 } : Room) (s.setVm s.vm) m #[(.ref ot), (.ref orr), (.ref ow)] below meth c s₁ [] 0 0 := Stand.of_body Bd
  have e0 : s₁.heap = h0 := by rw [← hh, Bd.state]; rfl
  have N0 := Fr.nil n0
  have KK0 : Keep h0 h0 [ot] := Keep.refl h0 _
  have hS0 : s.Since s.vm 0 := (State.WarmedH.refl s).since 0
  have hk0 : 0 ≤ h0.size := Nat.zero_le _
  refine own_startW (own_Qini2 Z ot orr ow h0 n0) ?_
  refine own_to (V := s₁.setTop (mkF m 0 #[.val (.ref ot), .val (.ref orr), .val (.ref ow)] [])) ?_ (fun t k => castTop (own_ef_ini2 m ot orr ow ) k)
  obtain ⟨⟨G1, O2, P5⟩, ⟨G3, O4, rG3⟩, -⟩ := id hst
  refine own_to (V := s₁.setTop (mkF m 1 #[.val (.ref ot), .val (.ref orr), .val (.ref ow)] [(.ref ot)])) ?_ fun t k => (by
    refine XS.aloadN X0.here hx rfl (hb hby own_d_prog_15_m2_0) rfl rfl ?_
    exact k)
  obtain ⟨T101, X101, e101, st101⟩ := initO X0 hx hZ hown (hw _ (List.mem_of_getElem? (i := 50) rfl)) (hw _ (List.mem_of_getElem? (i := 17) rfl)) (hw _ (List.mem_of_getElem? (i := 18) rfl)) e0 (g := (mkF m 1 #[.val (.ref ot), .val (.ref orr), .val (.ref ow)] [(.ref ot)])) rfl (by rw [hml]; rfl) rfl (hb hby own_d_prog_15_m2_1) (by decide) (W := 0) (by show 2 * 0 + _ ≤ _; exact Nat.le_of_eq rfl) (by decide)
  refine own_to (V := T101.setTop (mkF m 4 #[.val (.ref ot), .val (.ref orr), .val (.ref ow)] [])) ?_ st101
  refine own_to (V := T101.setTop (mkF m 6 #[.val (.ref ot), .val (.ref orr), .val (.ref ow)] [(.ref orr), (.ref ot)])) ?_ fun t k => (by
    refine XS.aloadN X101.here hx rfl (hb hby own_d_prog_15_m2_4) rfl rfl ?_
    refine XS.aloadN X101.here hx rfl (hb hby own_d_prog_15_m2_5) rfl rfl ?_
    exact k)
  obtain ⟨s102, T102, h102, k102, X102, e102, E102, hS102, hk102, hZ102, hown102, st102⟩ := ldcS X101 hx hZ hown (hw _ (List.mem_of_getElem? (i := 51) rfl)) (own_hsa hw) e101 hS0 hk0 (g := (mkF m 6 #[.val (.ref ot), .val (.ref orr), .val (.ref ow)] [(.ref orr), (.ref ot)])) rfl (hb hby own_d_prog_15_m2_6) (n := 16) (by decide) (by decide) (by decide) (by decide)
  have Xo102 : Old Z n0 h102 := X00.ext E102
  have KK102 : Keep h0 h102 [ot] := KK0.ext E102
  refine own_to (V := T102.setTop (mkF m 8 #[.val (.ref ot), .val (.ref orr), .val (.ref ow)] [(.ref s102), (.ref orr), (.ref ot)])) ?_ st102
  obtain ⟨_, _, ⟨T103, L103, k103, n103⟩, -, X103, ⟨Lc103, hQ103, l103, y103, z103⟩, st103⟩ := Jvm.LawKit.callS X102 hx (y := (⟨"java/util/Objects", "requireNonNull", "(Ljava/lang/Object;Ljava/lang/String;)Ljava/lang/Object;"⟩ : MethodName)) hown102 (mvT hZ102 (hw _ (List.mem_of_getElem? (i := 54) rfl))) (mvT hZ102 (hw _ (List.mem_of_getElem? (i := 55) rfl))) (mvT hZ102 (hw _ (List.mem_of_getElem? (i := 56) rfl))) (mvT hZ102 (hw _ (List.mem_of_getElem? (i := 57) rfl))) (by decide) (backOf (W := 1) (own_rmrnn l Z a0 hw hst [] orr s102 h102 n0 Xo102 ) hZ102 (hw _ (List.mem_of_getElem? (i := 57) rfl)) (hw _ (List.mem_of_getElem? (i := 56) rfl)) (by decide) (by decide)) (g := (mkF m 8 #[.val (.ref ot), .val (.ref orr), .val (.ref ow)] [(.ref s102), (.ref orr), (.ref ot)])) rfl (by rw [hml]; rfl) (argsL := [(.ref orr), (.ref s102)]) (rest := [(.ref ot)]) (lenOf own_pd1 rfl) rfl (by show 2 * 0 + _ ≤ _; exact Nat.le_of_eq rfl) (hb hby own_d_prog_15_m2_8) (fun _ _ => ⟨rfl, e102, (by decide : 2 + 0 ≤ _), (by decide : 20 + 0 ≤ _)⟩)
  dsimp only [Pt.U, Pt.locs, Pt.cells, Pt.slots] at X103 l103 y103 z103 st103 hQ103
  subst l103 y103 z103
  obtain ⟨hv103, N103q, K103⟩ := hQ103
  subst hv103
  obtain ⟨h103, e103⟩ : ∃ z, T103.heap = z := ⟨_, rfl⟩
  rw [e103] at K103
  have Xo103 : Old Z n0 h103 := Xo102.keep K103 all0
  have KK103 : Keep h0 h103 [ot] := KK102.trans K103 all0
  have N103 := Fr.app N0 N103q
  refine own_to (V := T103.setTop (mkF m 11 #[.val (.ref ot), .val (.ref orr), .val (.ref ow)] [(.ref orr), (.ref ot)])) ?_ st103
  have F105 : Exa Z h103 orr "com/example/eager_query/eagerquery/model/Role" := ((hEr.ext E102).keep K103)
  obtain ⟨T104, X104, e104, st104⟩ := castY X103 hx hZ102 hown102 (hw _ (List.mem_of_getElem? (i := 58) rfl)) e103 (Ins.self F105) (g := (mkF m 11 #[.val (.ref ot), .val (.ref orr), .val (.ref ow)] [(.ref orr), (.ref ot)])) rfl rfl (hb hby own_d_prog_15_m2_11)
  refine own_to (V := T104.setTop (mkF m 14 #[.val (.ref ot), .val (.ref orr), .val (.ref ow)] [(.ref orr), (.ref ot)])) ?_ st104
  have F106 : Exa Z h103 ot "com/example/eager_query/eagerquery/model/Element" := ((hE.ext E102).keep K103)
  have F107 : Fld Z h103 ot "com/example/eager_query/eagerquery/model/Element" "role" "Lcom/example/eager_query/eagerquery/model/Role;" .null := ((hF1.ext E102).keep K103 List.not_mem_nil)
  obtain ⟨T108, h108, X108, e108, W108, st108⟩ := putF X104 hx hZ102 hown102 (host := "") (Or.inl (hw _ (List.mem_of_getElem? (i := 60) rfl))) Via.refl e104 F107 F106 (Or.inr ⟨(hw _ (List.mem_of_getElem? (i := 61) rfl)), rfl, hnm⟩) (hw _ (List.mem_of_getElem? (i := 45) rfl)) (ty := (.object "com/example/eager_query/eagerquery/model/Role")) (by decide) rfl rfl (g := (mkF m 14 #[.val (.ref ot), .val (.ref orr), .val (.ref ow)] [(.ref orr), (.ref ot)])) rfl rfl (hb hby own_d_prog_15_m2_14)
  have Xo108 : Old Z n0 h108 := Xo103.wr W108 hG
  have KK108 : Keep h0 h108 [ot] := KK103.wr W108 (Or.inl (List.mem_of_getElem? (i := 0) rfl))
  have Fw108 : Fld Z h108 ot "com/example/eager_query/eagerquery/model/Element" "role" "Lcom/example/eager_query/eagerquery/model/Role;" (.ref orr) := F107.same W108
  have N108 := Fr.snoc X108 N103 hG
  refine own_to (V := T108.setTop (mkF m 17 #[.val (.ref ot), .val (.ref orr), .val (.ref ow)] [])) ?_ st108
  refine own_to (V := T108.setTop (mkF m 19 #[.val (.ref ot), .val (.ref orr), .val (.ref ow)] [(.ref ow), (.ref ot)])) ?_ fun t k => (by
    refine XS.aloadN X108.here hx rfl (hb hby own_d_prog_15_m2_17) rfl rfl ?_
    refine XS.aloadN X108.here hx rfl (hb hby own_d_prog_15_m2_18) rfl rfl ?_
    exact k)
  obtain ⟨s109, T109, h109, k109, X109, e109, E109, hS109, hk109, hZ109, hown109, st109⟩ := ldcS X108 hx hZ102 hown102 (hw _ (List.mem_of_getElem? (i := 62) rfl)) (own_hsa hw) e108 hS102 (Nat.le_trans (Nat.le_trans hk102 K103.1) (Nat.le_of_eq W108.size.symm)) (g := (mkF m 19 #[.val (.ref ot), .val (.ref orr), .val (.ref ow)] [(.ref ow), (.ref ot)])) rfl (hb hby own_d_prog_15_m2_19) (n := 16) (by decide) (by decide) (by decide) (by decide)
  have Xo109 : Old Z n0 h109 := Xo108.ext E109
  have KK109 : Keep h0 h109 [ot] := KK108.ext E109
  refine own_to (V := T109.setTop (mkF m 21 #[.val (.ref ot), .val (.ref orr), .val (.ref ow)] [(.ref s109), (.ref ow), (.ref ot)])) ?_ st109
  obtain ⟨_, _, ⟨T110, L110, k110, n110⟩, -, X110, ⟨Lc110, hQ110, l110, y110, z110⟩, st110⟩ := Jvm.LawKit.callS X109 hx (y := (⟨"java/util/Objects", "requireNonNull", "(Ljava/lang/Object;Ljava/lang/String;)Ljava/lang/Object;"⟩ : MethodName)) hown109 (mvT hZ109 (hw _ (List.mem_of_getElem? (i := 54) rfl))) (mvT hZ109 (hw _ (List.mem_of_getElem? (i := 55) rfl))) (mvT hZ109 (hw _ (List.mem_of_getElem? (i := 56) rfl))) (mvT hZ109 (hw _ (List.mem_of_getElem? (i := 57) rfl))) (by decide) (backOf (W := 1) (own_rmrnn l Z a0 hw hst [] ow s109 h109 n0 Xo109 ) hZ109 (hw _ (List.mem_of_getElem? (i := 57) rfl)) (hw _ (List.mem_of_getElem? (i := 56) rfl)) (by decide) (by decide)) (g := (mkF m 21 #[.val (.ref ot), .val (.ref orr), .val (.ref ow)] [(.ref s109), (.ref ow), (.ref ot)])) rfl (by rw [hml]; rfl) (argsL := [(.ref ow), (.ref s109)]) (rest := [(.ref ot)]) (lenOf own_pd1 rfl) rfl (by show 2 * 0 + _ ≤ _; exact Nat.le_of_eq rfl) (hb hby own_d_prog_15_m2_21) (fun _ _ => ⟨rfl, e109, (by decide : 4 + 0 ≤ _), (by decide : 40 + 0 ≤ _)⟩)
  dsimp only [Pt.U, Pt.locs, Pt.cells, Pt.slots] at X110 l110 y110 z110 st110 hQ110
  subst l110 y110 z110
  obtain ⟨hv110, N110q, K110⟩ := hQ110
  subst hv110
  obtain ⟨h110, e110⟩ : ∃ z, T110.heap = z := ⟨_, rfl⟩
  rw [e110] at K110
  have Xo110 : Old Z n0 h110 := Xo109.keep K110 all0
  have KK110 : Keep h0 h110 [ot] := KK109.trans K110 all0
  have N110 := Fr.app N108 N110q
  refine own_to (V := T110.setTop (mkF m 24 #[.val (.ref ot), .val (.ref orr), .val (.ref ow)] [(.ref ow), (.ref ot)])) ?_ st110
  have F112 : Exa Z h110 ow "java/lang/String" := (((((hEw.ext E102).keep K103).wr W108).ext E109).keep K110)
  obtain ⟨T111, X111, e111, st111⟩ := castY X110 hx hZ109 hown109 (hw _ (List.mem_of_getElem? (i := 63) rfl)) e110 (Ins.self F112) (g := (mkF m 24 #[.val (.ref ot), .val (.ref orr), .val (.ref ow)] [(.ref ow), (.ref ot)])) rfl rfl (hb hby own_d_prog_15_m2_24)
  refine own_to (V := T111.setTop (mkF m 27 #[.val (.ref ot), .val (.ref orr), .val (.ref ow)] [(.ref ow), (.ref ot)])) ?_ st111
  have F113 : Exa Z h110 ot "com/example/eager_query/eagerquery/model/Element" := (((F106.wr W108).ext E109).keep K110)
  have F114 : Fld Z h110 ot "com/example/eager_query/eagerquery/model/Element" "word" "Ljava/lang/String;" .null := (((((hF2.ext E102).keep K103 List.not_mem_nil).other W108 (Or.inr (slot_ne (Or.inr (hw _ (List.mem_of_getElem? (i := 65) rfl))) (Or.inr (hw _ (List.mem_of_getElem? (i := 61) rfl))) (by decide) (t := (.object "java/lang/String")) (t' := (.object "com/example/eager_query/eagerquery/model/Role")) (by decide) (by decide)))).ext E109).keep K110 List.not_mem_nil)
  obtain ⟨T115, h115, X115, e115, W115, st115⟩ := putF X111 hx hZ109 hown109 (host := "") (Or.inl (hw _ (List.mem_of_getElem? (i := 64) rfl))) Via.refl e111 F114 F113 (Or.inr ⟨(hw _ (List.mem_of_getElem? (i := 65) rfl)), rfl, hnm⟩) (hw _ (List.mem_of_getElem? (i := 45) rfl)) (ty := (.object "java/lang/String")) (by decide) rfl rfl (g := (mkF m 27 #[.val (.ref ot), .val (.ref orr), .val (.ref ow)] [(.ref ow), (.ref ot)])) rfl rfl (hb hby own_d_prog_15_m2_27)
  have Xo115 : Old Z n0 h115 := Xo110.wr W115 hG
  have KK115 : Keep h0 h115 [ot] := KK110.wr W115 (Or.inl (List.mem_of_getElem? (i := 0) rfl))
  have Fw115 : Fld Z h115 ot "com/example/eager_query/eagerquery/model/Element" "word" "Ljava/lang/String;" (.ref ow) := F114.same W115
  have N115 := Fr.snoc X115 N110 hG
  refine own_to (V := T115.setTop (mkF m 30 #[.val (.ref ot), .val (.ref orr), .val (.ref ow)] [])) ?_ st115
  have F116 : Fld Z h115 ot "com/example/eager_query/eagerquery/model/Element" "role" "Lcom/example/eager_query/eagerquery/model/Role;" (.ref orr) := (((Fw108.ext E109).keep K110 List.not_mem_nil).other W115 (Or.inr (slot_ne (Or.inr (hw _ (List.mem_of_getElem? (i := 61) rfl))) (Or.inr (hw _ (List.mem_of_getElem? (i := 65) rfl))) (by decide) (t := (.object "com/example/eager_query/eagerquery/model/Role")) (t' := (.object "java/lang/String")) (by decide) (by decide))))
  exact own_retVW X115 hx hS109 (own_hk e115 (Nat.le_trans (Nat.le_trans hk109 K110.1) (Nat.le_of_eq W115.size.symm))) hret hlk (hb hby own_d_prog_15_m2_30) (by rw [e115]; exact (⟨rfl, N115, KK115, F116, Fw115⟩)) (by decide) (by decide)
def own_Qini1 (Z : State) (ot : Addr) (ow : Addr) (h0 : Heap) (n0 : Nat) (v : Option Value) (h : Heap) (L : List Loc) : Prop := (v = none ∧ Fr n0 L ∧ Keep h0 h [ot] ∧ (Fld Z h ot "com/example/eager_query/eagerquery/model/Element" "role" "Lcom/example/eager_query/eagerquery/model/Role;" .null) ∧ (Fld Z h ot "com/example/eager_query/eagerquery/model/Element" "word" "Ljava/lang/String;" (.ref ow)))
theorem own_ef_ini1 (m : MethodId) (ot : Addr) (ow : Addr)  : entryFrame m #[(.ref ot), (.ref ow)] 2 = mkF m 0 #[.val (.ref ot), .val (.ref ow)] [] := by first | (simp [entryFrame, mkF, argsToLocals, Value.category]; done) | rfl
set_option maxRecDepth 65536 in
set_option maxHeartbeats 40000000 in
theorem own_rmini1 (l : Launch) (Z : State) (a0 : Array Value) (hw : ∀ d ∈ tables_1, d.before a0 Z = true) (hst : own_St Z) (ws : List Jvm.Cond) (ot : Addr) (ow : Addr) (h0 : Heap) (n0 : Nat) (X00 : Old Z n0 h0) (hE : Exa Z h0 ot "com/example/eager_query/eagerquery/model/Element") (hF1 : Fld Z h0 ot "com/example/eager_query/eagerquery/model/Element" "role" "Lcom/example/eager_query/eagerquery/model/Role;" .null) (hF2 : Fld Z h0 ot "com/example/eager_query/eagerquery/model/Element" "word" "Ljava/lang/String;" .null) (hG : n0 ≤ ot) (hEw : Exa Z h0 ow "java/lang/String") :
    MetFree l (⟨"com/example/eager_query/eagerquery/model/Element", "<init>", "(Ljava/lang/String;)V"⟩ : MethodName) (head1 (Jvm.Cond.code (⟨"com/example/eager_query/eagerquery/model/Element", "<init>", "(Ljava/lang/String;)V"⟩ : MethodName) prog_15_method_1_code 2 (Option.none : Option Jvm.ClassFile.FieldType) :: ws) ({ frames := 1, cells := 2, slots := 20, locals := 14 } : Room)) (fun a U => a = #[(.ref ot), (.ref ow)] ∧ Z.Warmed39 U.vm ∧ U.heap = h0) (fun _ _ _ _ _ => True) (fun _ U o U' => ∃ v L, o = .returned v ∧ own_Qini1 Z ot ow h0 n0 v U'.heap L ∧ ReturnedEndW U o U' L ({ frames := 1, cells := 2, slots := 20, locals := 14 } : Room).cells ({ frames := 1, cells := 2, slots := 20, locals := 14 } : Room).slots) := by
  refine MetFree.of_bodySF (plainFor_of_name own_pn2) hisR ?_
  intro p e s m args below meth c s₁ Bd hml0 hP hK
  obtain ⟨rfl, hZ, hh⟩ := hP
  have hx := Bd.exec
  have hby := Bd.bytes
  have hret := Bd.returns
  have hlk : meth.locks = false := BodyLoose.notSynchronized Bd
  have hml : c.maxLocals = 2 := hml0
  have hown : s.vm.findClass "com/example/eager_query/eagerquery/model/Element" = some m.cls := findClass_of_methodNamed Bd.named
  have hnm := (name_of_methodNamed Bd.named Bd.method).1
  have X0 : Stand p l e ({ frames := 1, cells := 2, slots := 20, locals := 14 } : Room) (s.setVm s.vm) m #[(.ref ot), (.ref ow)] below meth c s₁ [] 0 0 := Stand.of_body Bd
  have e0 : s₁.heap = h0 := by rw [← hh, Bd.state]; rfl
  have N0 := Fr.nil n0
  have KK0 : Keep h0 h0 [ot] := Keep.refl h0 _
  have hS0 : s.Since s.vm 0 := (State.WarmedH.refl s).since 0
  have hk0 : 0 ≤ h0.size := Nat.zero_le _
  refine own_startW (own_Qini1 Z ot ow h0 n0) ?_
  refine own_to (V := s₁.setTop (mkF m 0 #[.val (.ref ot), .val (.ref ow)] [])) ?_ (fun t k => castTop (own_ef_ini1 m ot ow ) k)
  obtain ⟨⟨G1, O2, P5⟩, ⟨G3, O4, rG3⟩, -⟩ := id hst
  refine own_to (V := s₁.setTop (mkF m 1 #[.val (.ref ot), .val (.ref ow)] [(.ref ot)])) ?_ fun t k => (by
    refine XS.aloadN X0.here hx rfl (hb hby own_d_prog_15_m1_0) rfl rfl ?_
    exact k)
  obtain ⟨T101, X101, e101, st101⟩ := initO X0 hx hZ hown (hw _ (List.mem_of_getElem? (i := 50) rfl)) (hw _ (List.mem_of_getElem? (i := 17) rfl)) (hw _ (List.mem_of_getElem? (i := 18) rfl)) e0 (g := (mkF m 1 #[.val (.ref ot), .val (.ref ow)] [(.ref ot)])) rfl (by rw [hml]; rfl) rfl (hb hby own_d_prog_15_m1_1) (by decide) (W := 0) (by show 2 * 0 + _ ≤ _; exact Nat.le_of_eq rfl) (by decide)
  refine own_to (V := T101.setTop (mkF m 4 #[.val (.ref ot), .val (.ref ow)] [])) ?_ st101
  refine own_to (V := T101.setTop (mkF m 6 #[.val (.ref ot), .val (.ref ow)] [.null, (.ref ot)])) ?_ fun t k => (by
    refine XS.aloadN X101.here hx rfl (hb hby own_d_prog_15_m1_4) rfl rfl ?_
    refine XS.aconstNull X101.here hx rfl (hb hby own_d_prog_15_m1_5) ?_
    exact k)
  obtain ⟨T102, h102, X102, e102, W102, st102⟩ := putF X101 hx hZ hown (host := "") (Or.inl (hw _ (List.mem_of_getElem? (i := 60) rfl))) Via.refl e101 hF1 hE (Or.inr ⟨(hw _ (List.mem_of_getElem? (i := 61) rfl)), rfl, hnm⟩) (hw _ (List.mem_of_getElem? (i := 45) rfl)) (ty := (.object "com/example/eager_query/eagerquery/model/Role")) (by decide) rfl rfl (g := (mkF m 6 #[.val (.ref ot), .val (.ref ow)] [.null, (.ref ot)])) rfl rfl (hb hby own_d_prog_15_m1_6)
  have Xo102 : Old Z n0 h102 := X00.wr W102 hG
  have KK102 : Keep h0 h102 [ot] := KK0.wr W102 (Or.inl (List.mem_of_getElem? (i := 0) rfl))
  have Fw102 : Fld Z h102 ot "com/example/eager_query/eagerquery/model/Element" "role" "Lcom/example/eager_query/eagerquery/model/Role;" .null := hF1.same W102
  have N102 := Fr.snoc X102 N0 hG
  refine own_to (V := T102.setTop (mkF m 9 #[.val (.ref ot), .val (.ref ow)] [])) ?_ st102
  refine own_to (V := T102.setTop (mkF m 11 #[.val (.ref ot), .val (.ref ow)] [(.ref ow), (.ref ot)])) ?_ fun t k => (by
    refine XS.aloadN X102.here hx rfl (hb hby own_d_prog_15_m1_9) rfl rfl ?_
    refine XS.aloadN X102.here hx rfl (hb hby own_d_prog_15_m1_10) rfl rfl ?_
    exact k)
  obtain ⟨s103, T103, h103, k103, X103, e103, E103, hS103, hk103, hZ103, hown103, st103⟩ := ldcS X102 hx hZ hown (hw _ (List.mem_of_getElem? (i := 62) rfl)) (own_hsa hw) e102 hS0 (Nat.le_trans hk0 (Nat.le_of_eq W102.size.symm)) (g := (mkF m 11 #[.val (.ref ot), .val (.ref ow)] [(.ref ow), (.ref ot)])) rfl (hb hby own_d_prog_15_m1_11) (n := 16) (by decide) (by decide) (by decide) (by decide)
  have Xo103 : Old Z n0 h103 := Xo102.ext E103
  have KK103 : Keep h0 h103 [ot] := KK102.ext E103
  refine own_to (V := T103.setTop (mkF m 13 #[.val (.ref ot), .val (.ref ow)] [(.ref s103), (.ref ow), (.ref ot)])) ?_ st103
  obtain ⟨_, _, ⟨T104, L104, k104, n104⟩, -, X104, ⟨Lc104, hQ104, l104, y104, z104⟩, st104⟩ := Jvm.LawKit.callS X103 hx (y := (⟨"java/util/Objects", "requireNonNull", "(Ljava/lang/Object;Ljava/lang/String;)Ljava/lang/Object;"⟩ : MethodName)) hown103 (mvT hZ103 (hw _ (List.mem_of_getElem? (i := 54) rfl))) (mvT hZ103 (hw _ (List.mem_of_getElem? (i := 55) rfl))) (mvT hZ103 (hw _ (List.mem_of_getElem? (i := 56) rfl))) (mvT hZ103 (hw _ (List.mem_of_getElem? (i := 57) rfl))) (by decide) (backOf (W := 1) (own_rmrnn l Z a0 hw hst [] ow s103 h103 n0 Xo103 ) hZ103 (hw _ (List.mem_of_getElem? (i := 57) rfl)) (hw _ (List.mem_of_getElem? (i := 56) rfl)) (by decide) (by decide)) (g := (mkF m 13 #[.val (.ref ot), .val (.ref ow)] [(.ref s103), (.ref ow), (.ref ot)])) rfl (by rw [hml]; rfl) (argsL := [(.ref ow), (.ref s103)]) (rest := [(.ref ot)]) (lenOf own_pd1 rfl) rfl (by show 2 * 0 + _ ≤ _; exact Nat.le_of_eq rfl) (hb hby own_d_prog_15_m1_13) (fun _ _ => ⟨rfl, e103, (by decide : 2 + 0 ≤ _), (by decide : 20 + 0 ≤ _)⟩)
  dsimp only [Pt.U, Pt.locs, Pt.cells, Pt.slots] at X104 l104 y104 z104 st104 hQ104
  subst l104 y104 z104
  obtain ⟨hv104, N104q, K104⟩ := hQ104
  subst hv104
  obtain ⟨h104, e104⟩ : ∃ z, T104.heap = z := ⟨_, rfl⟩
  rw [e104] at K104
  have Xo104 : Old Z n0 h104 := Xo103.keep K104 all0
  have KK104 : Keep h0 h104 [ot] := KK103.trans K104 all0
  have N104 := Fr.app N102 N104q
  refine own_to (V := T104.setTop (mkF m 16 #[.val (.ref ot), .val (.ref ow)] [(.ref ow), (.ref ot)])) ?_ st104
  have F106 : Exa Z h104 ow "java/lang/String" := (((hEw.wr W102).ext E103).keep K104)
  obtain ⟨T105, X105, e105, st105⟩ := castY X104 hx hZ103 hown103 (hw _ (List.mem_of_getElem? (i := 63) rfl)) e104 (Ins.self F106) (g := (mkF m 16 #[.val (.ref ot), .val (.ref ow)] [(.ref ow), (.ref ot)])) rfl rfl (hb hby own_d_prog_15_m1_16)
  refine own_to (V := T105.setTop (mkF m 19 #[.val (.ref ot), .val (.ref ow)] [(.ref ow), (.ref ot)])) ?_ st105
  have F107 : Exa Z h104 ot "com/example/eager_query/eagerquery/model/Element" := (((hE.wr W102).ext E103).keep K104)
  have F108 : Fld Z h104 ot "com/example/eager_query/eagerquery/model/Element" "word" "Ljava/lang/String;" .null := (((hF2.other W102 (Or.inr (slot_ne (Or.inr (hw _ (List.mem_of_getElem? (i := 65) rfl))) (Or.inr (hw _ (List.mem_of_getElem? (i := 61) rfl))) (by decide) (t := (.object "java/lang/String")) (t' := (.object "com/example/eager_query/eagerquery/model/Role")) (by decide) (by decide)))).ext E103).keep K104 List.not_mem_nil)
  obtain ⟨T109, h109, X109, e109, W109, st109⟩ := putF X105 hx hZ103 hown103 (host := "") (Or.inl (hw _ (List.mem_of_getElem? (i := 64) rfl))) Via.refl e105 F108 F107 (Or.inr ⟨(hw _ (List.mem_of_getElem? (i := 65) rfl)), rfl, hnm⟩) (hw _ (List.mem_of_getElem? (i := 45) rfl)) (ty := (.object "java/lang/String")) (by decide) rfl rfl (g := (mkF m 19 #[.val (.ref ot), .val (.ref ow)] [(.ref ow), (.ref ot)])) rfl rfl (hb hby own_d_prog_15_m1_19)
  have Xo109 : Old Z n0 h109 := Xo104.wr W109 hG
  have KK109 : Keep h0 h109 [ot] := KK104.wr W109 (Or.inl (List.mem_of_getElem? (i := 0) rfl))
  have Fw109 : Fld Z h109 ot "com/example/eager_query/eagerquery/model/Element" "word" "Ljava/lang/String;" (.ref ow) := F108.same W109
  have N109 := Fr.snoc X109 N104 hG
  refine own_to (V := T109.setTop (mkF m 22 #[.val (.ref ot), .val (.ref ow)] [])) ?_ st109
  have F110 : Fld Z h109 ot "com/example/eager_query/eagerquery/model/Element" "role" "Lcom/example/eager_query/eagerquery/model/Role;" .null := (((Fw102.ext E103).keep K104 List.not_mem_nil).other W109 (Or.inr (slot_ne (Or.inr (hw _ (List.mem_of_getElem? (i := 61) rfl))) (Or.inr (hw _ (List.mem_of_getElem? (i := 65) rfl))) (by decide) (t := (.object "com/example/eager_query/eagerquery/model/Role")) (t' := (.object "java/lang/String")) (by decide) (by decide))))
  exact own_retVW X109 hx hS103 (own_hk e109 (Nat.le_trans (Nat.le_trans hk103 K104.1) (Nat.le_of_eq W109.size.symm))) hret hlk (hb hby own_d_prog_15_m1_22) (by rw [e109]; exact (⟨rfl, N109, KK109, F110, Fw109⟩)) (by decide) (by decide)
def own_Qmake (Z : State) (wk : Int32) (ow : Addr) (rA : Addr) (rB : Addr) (rC : Addr) (rD : Addr) (rE : Addr) (h0 : Heap) (n0 : Nat) (v : Option Value) (h : Heap) (L : List Loc) : Prop := (∃ (oa : Addr), v = some (.ref oa) ∧ Fr n0 L ∧ Keep h0 h [] ∧ (h0.size ≤ oa) ∧ (Exa Z h oa "com/example/eager_query/eagerquery/model/Element") ∧ (Fld Z h oa "com/example/eager_query/eagerquery/model/Element" "role" "Lcom/example/eager_query/eagerquery/model/Role;" (own_roleV rA rB rC rD rE wk)) ∧ (Fld Z h oa "com/example/eager_query/eagerquery/model/Element" "word" "Ljava/lang/String;" (.ref ow)))
theorem own_ef_make (m : MethodId) (wk : Int32) (ow : Addr)  : entryFrame m #[(.int wk), (.ref ow)] 3 = mkF m 0 #[.val (.int wk), .val (.ref ow), .unset] [] := by first | (simp [entryFrame, mkF, argsToLocals, Value.category]; done) | rfl
set_option maxRecDepth 65536 in
set_option maxHeartbeats 40000000 in
theorem own_rmmake (l : Launch) (Z : State) (a0 : Array Value) (hw : ∀ d ∈ tables_1, d.before a0 Z = true) (hst : own_St Z) (ws : List Jvm.Cond) (wk : Int32) (ow : Addr) (rA : Addr) (rB : Addr) (rC : Addr) (rD : Addr) (rE : Addr) (h0 : Heap) (n0 : Nat) (X00 : Old Z n0 h0) (hR : own_Roles Z rA rB rC rD rE) (hEw : Exa Z h0 ow "java/lang/String") :
    MetFree l (⟨"com/example/eager_query/eagerquery/model/ElementEqualsPinLaw", "make", "(ILjava/lang/String;)Lcom/example/eager_query/eagerquery/model/Element;"⟩ : MethodName) (head1 (Jvm.Cond.code (⟨"com/example/eager_query/eagerquery/model/ElementEqualsPinLaw", "make", "(ILjava/lang/String;)Lcom/example/eager_query/eagerquery/model/Element;"⟩ : MethodName) method_4_code 3 (Option.some (Jvm.ClassFile.FieldType.object "com/example/eager_query/eagerquery/model/Element")) :: ws) ({ frames := 2, cells := 5, slots := 42, locals := 29 } : Room)) (fun a U => a = #[(.int wk), (.ref ow)] ∧ Z.Warmed39 U.vm ∧ U.heap = h0) (fun _ _ _ _ _ => True) (fun _ U o U' => ∃ v L, o = .returned v ∧ own_Qmake Z wk ow rA rB rC rD rE h0 n0 v U'.heap L ∧ ReturnedEndW U o U' L ({ frames := 2, cells := 5, slots := 42, locals := 29 } : Room).cells ({ frames := 2, cells := 5, slots := 42, locals := 29 } : Room).slots) := by
  refine MetFree.of_bodySF (plainFor_of_name own_pn0) hisR ?_
  intro p e s m args below meth c s₁ Bd hml0 hP hK
  obtain ⟨rfl, hZ, hh⟩ := hP
  have hx := Bd.exec
  have hby := Bd.bytes
  have hret := Bd.returns
  have hlk : meth.locks = false := BodyLoose.notSynchronized Bd
  have hml : c.maxLocals = 3 := hml0
  have hown : s.vm.findClass "com/example/eager_query/eagerquery/model/ElementEqualsPinLaw" = some m.cls := findClass_of_methodNamed Bd.named
  have hnm := (name_of_methodNamed Bd.named Bd.method).1
  have X0 : Stand p l e ({ frames := 2, cells := 5, slots := 42, locals := 29 } : Room) (s.setVm s.vm) m #[(.int wk), (.ref ow)] below meth c s₁ [] 0 0 := Stand.of_body Bd
  have e0 : s₁.heap = h0 := by rw [← hh, Bd.state]; rfl
  have N0 := Fr.nil n0
  have KK0 : Keep h0 h0 [] := Keep.refl h0 _
  have hS0 : s.Since s.vm 0 := (State.WarmedH.refl s).since 0
  have hk0 : 0 ≤ h0.size := Nat.zero_le _
  refine own_startW (own_Qmake Z wk ow rA rB rC rD rE h0 n0) ?_
  refine own_to (V := s₁.setTop (mkF m 0 #[.val (.int wk), .val (.ref ow), .unset] [])) ?_ (fun t k => castTop (own_ef_make m wk ow ) k)
  obtain ⟨⟨G1, O2, P5⟩, ⟨G3, O4, rG3⟩, -⟩ := id hst
  refine own_to (V := s₁.setTop (mkF m 1 #[.val (.int wk), .val (.ref ow), .unset] [(.int wk)])) ?_ fun t k => (by
    refine XS.iloadN X0.here hx rfl (hb hby own_d_m4_0) rfl ?_
    exact k)
  obtain ⟨_, _, ⟨T101, L101, k101, n101⟩, -, X101, ⟨Lc101, hQ101, l101, y101, z101⟩, st101⟩ := Jvm.LawKit.callS X0 hx (y := (⟨"com/example/eager_query/eagerquery/model/ElementEqualsPinLaw", "role", "(I)Lcom/example/eager_query/eagerquery/model/Role;"⟩ : MethodName)) hown (mvT hZ (hw _ (List.mem_of_getElem? (i := 38) rfl))) (mvT hZ (hw _ (List.mem_of_getElem? (i := 39) rfl))) (mvT hZ (hw _ (List.mem_of_getElem? (i := 3) rfl))) (mvT hZ (hw _ (List.mem_of_getElem? (i := 40) rfl))) (by decide) (backOf (W := 0) (own_rmrole l Z a0 hw hst [] wk rA rB rC rD rE h0 n0 X00 hR) hZ (hw _ (List.mem_of_getElem? (i := 40) rfl)) (hw _ (List.mem_of_getElem? (i := 3) rfl)) (by decide) (by decide)) (g := (mkF m 1 #[.val (.int wk), .val (.ref ow), .unset] [(.int wk)])) rfl (by rw [hml]; rfl) (argsL := [(.int wk)]) (rest := []) (lenOf own_pd2 rfl) rfl (by show 2 * 0 + _ ≤ _; exact Nat.le_of_eq rfl) (hb hby own_d_m4_1) (fun _ _ => ⟨rfl, e0, (by decide : 0 + 0 ≤ _), (by decide : 0 + 0 ≤ _)⟩)
  dsimp only [Pt.U, Pt.locs, Pt.cells, Pt.slots] at X101 l101 y101 z101 st101 hQ101
  subst l101 y101 z101
  obtain ⟨rv101, hv101, N101q, K101, g101_0, g101_1⟩ := hQ101
  subst hv101
  obtain ⟨h101, e101⟩ : ∃ z, T101.heap = z := ⟨_, rfl⟩
  rw [e101] at K101
  have Xo101 : Old Z n0 h101 := X00.keep K101 all0
  have KK101 : Keep h0 h101 [] := KK0.trans K101 all0
  have N101 := Fr.app N0 N101q
  refine own_to (V := T101.setTop (mkF m 4 #[.val (.int wk), .val (.ref ow), .unset] [rv101])) ?_ st101
  refine own_to (V := T101.setTop (mkF m 6 #[.val (.int wk), .val (.ref ow), .val rv101] [rv101])) ?_ fun t k => (by
    refine XS.astoreN X101.here hx rfl (hb hby own_d_m4_4) rfl g101_1 (l' := #[.val (.int wk), .val (.ref ow), .val rv101]) (XS.store1 (o := .unset) rfl (Or.inl rfl) (own_cat g101_1)) ?_
    refine XS.aloadN X101.here hx rfl (hb hby own_d_m4_5) rfl g101_1 ?_
    exact k)
  rcases ref_cases g101_1 with hva102 | ⟨a102, hva102⟩
  · skip
    subst hva102
    refine own_to (V := T101.setTop (mkF m 9 #[.val (.int wk), .val (.ref ow), .val .null] [])) ?_ fun t k => (by
      refine XS.ifnonnullNo X101.here hx rfl (hb hby own_d_m4_6) rfl ?_
      exact k)
    obtain ⟨T103, h103, X103, e103, E103, A103, D103, U103, st103⟩ := newO X101 hx hZ hown (hw _ (List.mem_of_getElem? (i := 44) rfl)) (hw _ (List.mem_of_getElem? (i := 45) rfl)) (hw _ (List.mem_of_getElem? (i := 46) rfl)) e101 (g := (mkF m 9 #[.val (.int wk), .val (.ref ow), .val .null] [])) rfl (hb hby own_d_m4_9) (by decide) (by decide)
    obtain ⟨b103, g103⟩ : ∃ z, z = h101.size := ⟨_, rfl⟩
    rw [← g103] at A103 D103 U103 st103
    have Xo103 : Old Z n0 h103 := Xo101.ext E103
    have KK103 : Keep h0 h103 [] := KK101.ext E103
    have ge_b103 : n0 ≤ b103 := Nat.le_trans (own_ole Xo101) (Nat.le_of_eq g103.symm)
    have sz_b103 : h0.size ≤ b103 := Nat.le_trans KK101.1 (Nat.le_of_eq g103.symm)
    have Fi103_61 : Fld Z h103 b103 "com/example/eager_query/eagerquery/model/Element" "role" "Lcom/example/eager_query/eagerquery/model/Role;" .null := D103 (Or.inr (hw _ (List.mem_of_getElem? (i := 61) rfl))) (ty := (.object "com/example/eager_query/eagerquery/model/Role")) (by decide)
    have Fi103_65 : Fld Z h103 b103 "com/example/eager_query/eagerquery/model/Element" "word" "Ljava/lang/String;" .null := D103 (Or.inr (hw _ (List.mem_of_getElem? (i := 65) rfl))) (ty := (.object "java/lang/String")) (by decide)
    refine own_to (V := T103.setTop (mkF m 12 #[.val (.int wk), .val (.ref ow), .val .null] [(.ref b103)])) ?_ st103
    refine own_to (V := T103.setTop (mkF m 14 #[.val (.int wk), .val (.ref ow), .val .null] [(.ref ow), (.ref b103), (.ref b103)])) ?_ fun t k => (by
      refine XS.dup X103.here hx rfl (hb hby own_d_m4_12) rfl rfl ?_
      refine XS.aloadN X103.here hx rfl (hb hby own_d_m4_13) rfl rfl ?_
      exact k)
    have F105 : Exa Z h103 ow "java/lang/String" := ((hEw.keep K101).ext E103)
    obtain ⟨_, _, ⟨T104, L104, k104, n104⟩, -, X104', hS104', hg104, ⟨Lc104, hQ104, l104, y104, z104⟩, st104⟩ := X103.specialBackS hx (y := (⟨"com/example/eager_query/eagerquery/model/Element", "<init>", "(Ljava/lang/String;)V"⟩ : MethodName)) rfl hown (mvT hZ (hw _ (List.mem_of_getElem? (i := 66) rfl))) (mvT hZ (hw _ (List.mem_of_getElem? (i := 67) rfl))) (mvT hZ (hw _ (List.mem_of_getElem? (i := 68) rfl))) (by decide) (backOfS (W := 1) (own_rmini1 l Z a0 hw hst [] b103 ow h103 n0 Xo103 A103 Fi103_61 Fi103_65 ge_b103 F105) hZ (hw _ (List.mem_of_getElem? (i := 68) rfl)) (hw _ (List.mem_of_getElem? (i := 46) rfl)) (by decide) (by decide)) (g := (mkF m 14 #[.val (.int wk), .val (.ref ow), .val .null] [(.ref ow), (.ref b103), (.ref b103)])) rfl (by rw [hml]; rfl) (Steps.refl _) (a := b103) (argsL := [(.ref ow)]) (rest := [(.ref b103)]) (lenOf own_pd3 rfl) rfl (by show 2 * 0 + _ ≤ _; exact Nat.le_of_eq rfl) (hb hby own_d_m4_14) (fun _ _ => ⟨rfl, e103, (by decide : 1 + 2 ≤ _), (by decide : 2 + 20 ≤ _)⟩)
    dsimp only [Pt.U, Pt.locs, Pt.cells, Pt.slots] at X104' hS104' hg104 l104 y104 z104 st104 hQ104
    subst l104 y104 z104
    obtain ⟨X104, hS104, hZ104, hown104⟩ := rebS hS0 (own_hk e103 (Nat.le_trans (Nat.le_trans hk0 K101.1) E103.1)) X104' hS104' hg104 hZ hown
    obtain ⟨hv104, N104q, K104, g104_0, g104_1⟩ := hQ104
    subst hv104
    obtain ⟨h104, e104⟩ : ∃ z, T104.heap = z := ⟨_, rfl⟩
    rw [e104] at K104 g104_0 g104_1
    have Xo104 : Old Z n0 h104 := Xo103.keep K104 (allS ge_b103 all0)
    have KK104 : Keep h0 h104 [] := KK103.trans K104 (allS (Or.inr sz_b103) all0)
    have hk104 : T104.heap.size ≤ h104.size := by rw [e104]; exact Nat.le_refl _
    have N104 := Fr.app N101 N104q
    refine own_to (V := T104.setTop (mkF m 17 #[.val (.int wk), .val (.ref ow), .val .null] [(.ref b103)])) ?_ (fun t k => st104.trans k)
    have F106 : Exa Z h104 b103 "com/example/eager_query/eagerquery/model/Element" := (A103.keep K104)
    exact own_retRW X104 hx hS104 (own_hk e104 hk104) hret (by decide) rfl hlk (hb hby own_d_m4_17) (by rw [e104]; exact (⟨b103, rfl, N104, KK104, sz_b103, F106, (by rw [← g101_0]; exact g104_0), g104_1⟩)) (by decide) (by decide)
  · skip
    subst hva102
    have Er : Exa Z h101 a102 "com/example/eager_query/eagerquery/model/Role" := (own_role_exa hR g101_0).ext Xo101.2
    refine own_to (V := T101.setTop (mkF m 18 #[.val (.int wk), .val (.ref ow), .val (.ref a102)] [])) ?_ fun t k => (by
      refine XS.ifnonnullYes X101.here hx rfl (pc0 := 6) (pc' := 18) rfl (hb hby own_d_m4_6) rfl (by decide) (by decide) ?_
      exact k)
    obtain ⟨T107, h107, X107, e107, E107, A107, D107, U107, st107⟩ := newO X101 hx hZ hown (hw _ (List.mem_of_getElem? (i := 44) rfl)) (hw _ (List.mem_of_getElem? (i := 45) rfl)) (hw _ (List.mem_of_getElem? (i := 46) rfl)) e101 (g := (mkF m 18 #[.val (.int wk), .val (.ref ow), .val (.ref a102)] [])) rfl (hb hby own_d_m4_18) (by decide) (by decide)
    obtain ⟨b107, g107⟩ : ∃ z, z = h101.size := ⟨_, rfl⟩
    rw [← g107] at A107 D107 U107 st107
    have Xo107 : Old Z n0 h107 := Xo101.ext E107
    have KK107 : Keep h0 h107 [] := KK101.ext E107
    have ge_b107 : n0 ≤ b107 := Nat.le_trans (own_ole Xo101) (Nat.le_of_eq g107.symm)
    have sz_b107 : h0.size ≤ b107 := Nat.le_trans KK101.1 (Nat.le_of_eq g107.symm)
    have Fi107_61 : Fld Z h107 b107 "com/example/eager_query/eagerquery/model/Element" "role" "Lcom/example/eager_query/eagerquery/model/Role;" .null := D107 (Or.inr (hw _ (List.mem_of_getElem? (i := 61) rfl))) (ty := (.object "com/example/eager_query/eagerquery/model/Role")) (by decide)
    have Fi107_65 : Fld Z h107 b107 "com/example/eager_query/eagerquery/model/Element" "word" "Ljava/lang/String;" .null := D107 (Or.inr (hw _ (List.mem_of_getElem? (i := 65) rfl))) (ty := (.object "java/lang/String")) (by decide)
    refine own_to (V := T107.setTop (mkF m 21 #[.val (.int wk), .val (.ref ow), .val (.ref a102)] [(.ref b107)])) ?_ st107
    refine own_to (V := T107.setTop (mkF m 24 #[.val (.int wk), .val (.ref ow), .val (.ref a102)] [(.ref ow), (.ref a102), (.ref b107), (.ref b107)])) ?_ fun t k => (by
      refine XS.dup X107.here hx rfl (hb hby own_d_m4_21) rfl rfl ?_
      refine XS.aloadN X107.here hx rfl (hb hby own_d_m4_22) rfl rfl ?_
      refine XS.aloadN X107.here hx rfl (hb hby own_d_m4_23) rfl rfl ?_
      exact k)
    have F109 : Exa Z h107 a102 "com/example/eager_query/eagerquery/model/Role" := (Er.ext E107)
    have F110 : Exa Z h107 ow "java/lang/String" := ((hEw.keep K101).ext E107)
    obtain ⟨_, _, ⟨T108, L108, k108, n108⟩, -, X108', hS108', hg108, ⟨Lc108, hQ108, l108, y108, z108⟩, st108⟩ := X107.specialBackS hx (y := (⟨"com/example/eager_query/eagerquery/model/Element", "<init>", "(Lcom/example/eager_query/eagerquery/model/Role;Ljava/lang/String;)V"⟩ : MethodName)) rfl hown (mvT hZ (hw _ (List.mem_of_getElem? (i := 47) rfl))) (mvT hZ (hw _ (List.mem_of_getElem? (i := 48) rfl))) (mvT hZ (hw _ (List.mem_of_getElem? (i := 49) rfl))) (by decide) (backOfS (W := 1) (own_rmini2 l Z a0 hw hst [] b107 a102 ow h107 n0 Xo107 A107 Fi107_61 Fi107_65 ge_b107 F109 F110) hZ (hw _ (List.mem_of_getElem? (i := 49) rfl)) (hw _ (List.mem_of_getElem? (i := 46) rfl)) (by decide) (by decide)) (g := (mkF m 24 #[.val (.int wk), .val (.ref ow), .val (.ref a102)] [(.ref ow), (.ref a102), (.ref b107), (.ref b107)])) rfl (by rw [hml]; rfl) (Steps.refl _) (a := b107) (argsL := [(.ref a102), (.ref ow)]) (rest := [(.ref b107)]) (lenOf own_pd4 rfl) rfl (by show 2 * 0 + _ ≤ _; exact Nat.le_of_eq rfl) (hb hby own_d_m4_24) (fun _ _ => ⟨rfl, e107, (by decide : 1 + 4 ≤ _), (by decide : 2 + 40 ≤ _)⟩)
    dsimp only [Pt.U, Pt.locs, Pt.cells, Pt.slots] at X108' hS108' hg108 l108 y108 z108 st108 hQ108
    subst l108 y108 z108
    obtain ⟨X108, hS108, hZ108, hown108⟩ := rebS hS0 (own_hk e107 (Nat.le_trans (Nat.le_trans hk0 K101.1) E107.1)) X108' hS108' hg108 hZ hown
    obtain ⟨hv108, N108q, K108, g108_0, g108_1⟩ := hQ108
    subst hv108
    obtain ⟨h108, e108⟩ : ∃ z, T108.heap = z := ⟨_, rfl⟩
    rw [e108] at K108 g108_0 g108_1
    have Xo108 : Old Z n0 h108 := Xo107.keep K108 (allS ge_b107 all0)
    have KK108 : Keep h0 h108 [] := KK107.trans K108 (allS (Or.inr sz_b107) all0)
    have hk108 : T108.heap.size ≤ h108.size := by rw [e108]; exact Nat.le_refl _
    have N108 := Fr.app N101 N108q
    refine own_to (V := T108.setTop (mkF m 27 #[.val (.int wk), .val (.ref ow), .val (.ref a102)] [(.ref b107)])) ?_ (fun t k => st108.trans k)
    have F111 : Exa Z h108 b107 "com/example/eager_query/eagerquery/model/Element" := (A107.keep K108)
    exact own_retRW X108 hx hS108 (own_hk e108 hk108) hret (by decide) rfl hlk (hb hby own_d_m4_27) (by rw [e108]; exact (⟨b107, rfl, N108, KK108, sz_b107, F111, (by rw [← g101_0]; exact g108_0), g108_1⟩)) (by decide) (by decide)
def own_QeqN (Z : State) (oa : Addr) (h0 : Heap) (n0 : Nat) (v : Option Value) (h : Heap) (L : List Loc) : Prop := (v = some (.int (0 : Int32)) ∧ Fr n0 L ∧ Keep h0 h [])
theorem own_ef_eqN (m : MethodId) (oa : Addr)  : entryFrame m #[(.ref oa), .null] 3 = mkF m 0 #[.val (.ref oa), .val .null, .unset] [] := by first | (simp [entryFrame, mkF, argsToLocals, Value.category]; done) | rfl
set_option maxRecDepth 65536 in
set_option maxHeartbeats 40000000 in
theorem own_rmeqN (l : Launch) (Z : State) (a0 : Array Value) (hw : ∀ d ∈ tables_1, d.before a0 Z = true) (hst : own_St Z) (ws : List Jvm.Cond) (oa : Addr) (h0 : Heap) (n0 : Nat) (X00 : Old Z n0 h0) (hE : Exa Z h0 oa "com/example/eager_query/eagerquery/model/Element") :
    MetFree l (⟨"com/example/eager_query/eagerquery/model/Element", "equals", "(Ljava/lang/Object;)Z"⟩ : MethodName) (head1 (Jvm.Cond.code (⟨"com/example/eager_query/eagerquery/model/Element", "equals", "(Ljava/lang/Object;)Z"⟩ : MethodName) prog_15_method_5_code 3 (Option.some Jvm.ClassFile.FieldType.boolean) :: ws) ({ frames := 0, cells := 0, slots := 0, locals := 0 } : Room)) (fun a U => a = #[(.ref oa), .null] ∧ Z.Warmed39 U.vm ∧ U.heap = h0) (fun _ _ _ _ _ => True) (fun _ U o U' => ∃ v L, o = .returned v ∧ own_QeqN Z oa h0 n0 v U'.heap L ∧ FrameEnd U o U' L ({ frames := 0, cells := 0, slots := 0, locals := 0 } : Room).cells ({ frames := 0, cells := 0, slots := 0, locals := 0 } : Room).slots) := by
  refine MetFree.of_bodySF (plainFor_of_name own_pn2) hisR ?_
  intro p e s m args below meth c s₁ Bd hml0 hP hK
  obtain ⟨rfl, hZ, hh⟩ := hP
  have hx := Bd.exec
  have hby := Bd.bytes
  have hret := Bd.returns
  have hlk : meth.locks = false := BodyLoose.notSynchronized Bd
  have hml : c.maxLocals = 3 := hml0
  have hown : s.vm.findClass "com/example/eager_query/eagerquery/model/Element" = some m.cls := findClass_of_methodNamed Bd.named
  have hnm := (name_of_methodNamed Bd.named Bd.method).1
  have X0 : Stand p l e ({ frames := 0, cells := 0, slots := 0, locals := 0 } : Room) s m #[(.ref oa), .null] below meth c s₁ [] 0 0 := Stand.of_body Bd
  have e0 : s₁.heap = h0 := by rw [← hh, Bd.state]; rfl
  have N0 := Fr.nil n0
  have KK0 : Keep h0 h0 [] := Keep.refl h0 _
  refine own_start (own_QeqN Z oa h0 n0) ?_
  refine own_to (V := s₁.setTop (mkF m 0 #[.val (.ref oa), .val .null, .unset] [])) ?_ (fun t k => castTop (own_ef_eqN m oa ) k)
  obtain ⟨⟨G1, O2, P5⟩, ⟨G3, O4, rG3⟩, -⟩ := id hst
  refine own_to (V := s₁.setTop (mkF m 2 #[.val (.ref oa), .val .null, .unset] [.null, (.ref oa)])) ?_ fun t k => (by
    refine XS.aloadN X0.here hx rfl (hb hby own_d_prog_15_m5_0) rfl rfl ?_
    refine XS.aloadN X0.here hx rfl (hb hby own_d_prog_15_m5_1) rfl rfl ?_
    exact k)
  refine own_to (V := s₁.setTop (mkF m 8 #[.val (.ref oa), .val .null, .unset] [.null])) ?_ fun t k => (by
    refine Jvm.RoadKit.acmp (g := (mkF m 2 #[.val (.ref oa), .val .null, .unset] [.null, (.ref oa)])) X0 hx rfl rfl rfl (pc0 := 2) (pc' := 7) (same := false) rfl (hb hby own_d_prog_15_m5_2) rfl (decide_eq_false nofun) (by decide) (by decide) ?_
    refine XS.aloadN X0.here hx rfl (hb hby own_d_prog_15_m5_7) rfl rfl ?_
    exact k)
  refine own_to (V := s₁.setTop (mkF m 11 #[.val (.ref oa), .val .null, .unset] [(.int (0 : Int32))])) ?_ (fun t k => X0.instanceofNull hx (g := (mkF m 8 #[.val (.ref oa), .val .null, .unset] [.null])) rfl rfl (hb hby own_d_prog_15_m5_8) t k)
  refine own_to (V := s₁.setTop (mkF m 15 #[.val (.ref oa), .val .null, .unset] [(.int (0 : Int32))])) ?_ fun t k => (by
    refine XS.ifNo X0.here hx rfl (hb hby own_d_prog_15_m5_11) rfl ((if0 _ _).trans (teq ((by decide) : (0 : Int32) = (0 : Int32))).2) ?_
    refine XS.iconst X0.here hx rfl (hb hby own_d_prog_15_m5_14) ?_
    exact k)
  exact own_retN X0 hx (t := .boolean) (w := (0 : Int32)) hret (by decide) rfl hlk (hb hby own_d_prog_15_m5_15) (by rw [e0]; exact (⟨rfl, N0, KK0⟩)) (by decide) (by decide)
def own_QeqS (Z : State) (oa : Addr) (ow : Addr) (h0 : Heap) (n0 : Nat) (v : Option Value) (h : Heap) (L : List Loc) : Prop := (v = some (.int (0 : Int32)) ∧ Fr n0 L ∧ Keep h0 h [])
theorem own_ef_eqS (m : MethodId) (oa : Addr) (ow : Addr)  : entryFrame m #[(.ref oa), (.ref ow)] 3 = mkF m 0 #[.val (.ref oa), .val (.ref ow), .unset] [] := by first | (simp [entryFrame, mkF, argsToLocals, Value.category]; done) | rfl
set_option maxRecDepth 65536 in
set_option maxHeartbeats 40000000 in
theorem own_rmeqS (l : Launch) (Z : State) (a0 : Array Value) (hw : ∀ d ∈ tables_1, d.before a0 Z = true) (hst : own_St Z) (ws : List Jvm.Cond) (oa : Addr) (ow : Addr) (h0 : Heap) (n0 : Nat) (X00 : Old Z n0 h0) (hE : Exa Z h0 oa "com/example/eager_query/eagerquery/model/Element") (hEw : Exa Z h0 ow "java/lang/String") (hne : oa ≠ ow) :
    MetFree l (⟨"com/example/eager_query/eagerquery/model/Element", "equals", "(Ljava/lang/Object;)Z"⟩ : MethodName) (head1 (Jvm.Cond.code (⟨"com/example/eager_query/eagerquery/model/Element", "equals", "(Ljava/lang/Object;)Z"⟩ : MethodName) prog_15_method_5_code 3 (Option.some Jvm.ClassFile.FieldType.boolean) :: ws) ({ frames := 0, cells := 0, slots := 0, locals := 0 } : Room)) (fun a U => a = #[(.ref oa), (.ref ow)] ∧ Z.Warmed39 U.vm ∧ U.heap = h0) (fun _ _ _ _ _ => True) (fun _ U o U' => ∃ v L, o = .returned v ∧ own_QeqS Z oa ow h0 n0 v U'.heap L ∧ FrameEnd U o U' L ({ frames := 0, cells := 0, slots := 0, locals := 0 } : Room).cells ({ frames := 0, cells := 0, slots := 0, locals := 0 } : Room).slots) := by
  refine MetFree.of_bodySF (plainFor_of_name own_pn2) hisR ?_
  intro p e s m args below meth c s₁ Bd hml0 hP hK
  obtain ⟨rfl, hZ, hh⟩ := hP
  have hx := Bd.exec
  have hby := Bd.bytes
  have hret := Bd.returns
  have hlk : meth.locks = false := BodyLoose.notSynchronized Bd
  have hml : c.maxLocals = 3 := hml0
  have hown : s.vm.findClass "com/example/eager_query/eagerquery/model/Element" = some m.cls := findClass_of_methodNamed Bd.named
  have hnm := (name_of_methodNamed Bd.named Bd.method).1
  have X0 : Stand p l e ({ frames := 0, cells := 0, slots := 0, locals := 0 } : Room) s m #[(.ref oa), (.ref ow)] below meth c s₁ [] 0 0 := Stand.of_body Bd
  have e0 : s₁.heap = h0 := by rw [← hh, Bd.state]; rfl
  have N0 := Fr.nil n0
  have KK0 : Keep h0 h0 [] := Keep.refl h0 _
  refine own_start (own_QeqS Z oa ow h0 n0) ?_
  refine own_to (V := s₁.setTop (mkF m 0 #[.val (.ref oa), .val (.ref ow), .unset] [])) ?_ (fun t k => castTop (own_ef_eqS m oa ow ) k)
  obtain ⟨⟨G1, O2, P5⟩, ⟨G3, O4, rG3⟩, -⟩ := id hst
  refine own_to (V := s₁.setTop (mkF m 2 #[.val (.ref oa), .val (.ref ow), .unset] [(.ref ow), (.ref oa)])) ?_ fun t k => (by
    refine XS.aloadN X0.here hx rfl (hb hby own_d_prog_15_m5_0) rfl rfl ?_
    refine XS.aloadN X0.here hx rfl (hb hby own_d_prog_15_m5_1) rfl rfl ?_
    exact k)
  refine own_to (V := s₁.setTop (mkF m 8 #[.val (.ref oa), .val (.ref ow), .unset] [(.ref ow)])) ?_ fun t k => (by
    refine Jvm.RoadKit.acmp (g := (mkF m 2 #[.val (.ref oa), .val (.ref ow), .unset] [(.ref ow), (.ref oa)])) X0 hx rfl rfl rfl (pc0 := 2) (pc' := 7) (same := false) rfl (hb hby own_d_prog_15_m5_2) rfl (decide_eq_false fun q => hne (Value.ref.inj q)) (by decide) (by decide) ?_
    refine XS.aloadN X0.here hx rfl (hb hby own_d_prog_15_m5_7) rfl rfl ?_
    exact k)
  obtain ⟨T101, X101, e101, st101⟩ := instNo X0 hx hZ hown (hw _ (List.mem_of_getElem? (i := 76) rfl)) e0 hEw (own_NSno (hw _ (List.mem_of_getElem? (i := 77) rfl)) (hw _ (List.mem_of_getElem? (i := 45) rfl)) (NS.step (hw _ (List.mem_of_getElem? (i := 77) rfl)) (own_NSroot (hw _ (List.mem_of_getElem? (i := 78) rfl)) (hw _ (List.mem_of_getElem? (i := 45) rfl)) (by decide)) (by decide)) (by decide)) (g := (mkF m 8 #[.val (.ref oa), .val (.ref ow), .unset] [(.ref ow)])) rfl rfl (hb hby own_d_prog_15_m5_8)
  refine own_to (V := T101.setTop (mkF m 11 #[.val (.ref oa), .val (.ref ow), .unset] [(.int (0 : Int32))])) ?_ st101
  refine own_to (V := T101.setTop (mkF m 15 #[.val (.ref oa), .val (.ref ow), .unset] [(.int (0 : Int32))])) ?_ fun t k => (by
    refine XS.ifNo X101.here hx rfl (hb hby own_d_prog_15_m5_11) rfl ((if0 _ _).trans (teq ((by decide) : (0 : Int32) = (0 : Int32))).2) ?_
    refine XS.iconst X101.here hx rfl (hb hby own_d_prog_15_m5_14) ?_
    exact k)
  exact own_retN X101 hx (t := .boolean) (w := (0 : Int32)) hret (by decide) rfl hlk (hb hby own_d_prog_15_m5_15) (by rw [e101]; exact (⟨rfl, N0, KK0⟩)) (by decide) (by decide)
def own_QeqI (Z : State) (oa : Addr) (h0 : Heap) (n0 : Nat) (v : Option Value) (h : Heap) (L : List Loc) : Prop := (v = some (.int (1 : Int32)) ∧ Fr n0 L ∧ Keep h0 h [])
theorem own_ef_eqI (m : MethodId) (oa : Addr)  : entryFrame m #[(.ref oa), (.ref oa)] 3 = mkF m 0 #[.val (.ref oa), .val (.ref oa), .unset] [] := by first | (simp [entryFrame, mkF, argsToLocals, Value.category]; done) | rfl
set_option maxRecDepth 65536 in
set_option maxHeartbeats 40000000 in
theorem own_rmeqI (l : Launch) (Z : State) (a0 : Array Value) (hw : ∀ d ∈ tables_1, d.before a0 Z = true) (hst : own_St Z) (ws : List Jvm.Cond) (oa : Addr) (h0 : Heap) (n0 : Nat) (X00 : Old Z n0 h0) (hE : Exa Z h0 oa "com/example/eager_query/eagerquery/model/Element") :
    MetFree l (⟨"com/example/eager_query/eagerquery/model/Element", "equals", "(Ljava/lang/Object;)Z"⟩ : MethodName) (head1 (Jvm.Cond.code (⟨"com/example/eager_query/eagerquery/model/Element", "equals", "(Ljava/lang/Object;)Z"⟩ : MethodName) prog_15_method_5_code 3 (Option.some Jvm.ClassFile.FieldType.boolean) :: ws) ({ frames := 0, cells := 0, slots := 0, locals := 0 } : Room)) (fun a U => a = #[(.ref oa), (.ref oa)] ∧ Z.Warmed39 U.vm ∧ U.heap = h0) (fun _ _ _ _ _ => True) (fun _ U o U' => ∃ v L, o = .returned v ∧ own_QeqI Z oa h0 n0 v U'.heap L ∧ FrameEnd U o U' L ({ frames := 0, cells := 0, slots := 0, locals := 0 } : Room).cells ({ frames := 0, cells := 0, slots := 0, locals := 0 } : Room).slots) := by
  refine MetFree.of_bodySF (plainFor_of_name own_pn2) hisR ?_
  intro p e s m args below meth c s₁ Bd hml0 hP hK
  obtain ⟨rfl, hZ, hh⟩ := hP
  have hx := Bd.exec
  have hby := Bd.bytes
  have hret := Bd.returns
  have hlk : meth.locks = false := BodyLoose.notSynchronized Bd
  have hml : c.maxLocals = 3 := hml0
  have hown : s.vm.findClass "com/example/eager_query/eagerquery/model/Element" = some m.cls := findClass_of_methodNamed Bd.named
  have hnm := (name_of_methodNamed Bd.named Bd.method).1
  have X0 : Stand p l e ({ frames := 0, cells := 0, slots := 0, locals := 0 } : Room) s m #[(.ref oa), (.ref oa)] below meth c s₁ [] 0 0 := Stand.of_body Bd
  have e0 : s₁.heap = h0 := by rw [← hh, Bd.state]; rfl
  have N0 := Fr.nil n0
  have KK0 : Keep h0 h0 [] := Keep.refl h0 _
  refine own_start (own_QeqI Z oa h0 n0) ?_
  refine own_to (V := s₁.setTop (mkF m 0 #[.val (.ref oa), .val (.ref oa), .unset] [])) ?_ (fun t k => castTop (own_ef_eqI m oa ) k)
  obtain ⟨⟨G1, O2, P5⟩, ⟨G3, O4, rG3⟩, -⟩ := id hst
  refine own_to (V := s₁.setTop (mkF m 2 #[.val (.ref oa), .val (.ref oa), .unset] [(.ref oa), (.ref oa)])) ?_ fun t k => (by
    refine XS.aloadN X0.here hx rfl (hb hby own_d_prog_15_m5_0) rfl rfl ?_
    refine XS.aloadN X0.here hx rfl (hb hby own_d_prog_15_m5_1) rfl rfl ?_
    exact k)
  refine own_to (V := s₁.setTop (mkF m 6 #[.val (.ref oa), .val (.ref oa), .unset] [(.int (1 : Int32))])) ?_ fun t k => (by
    refine Jvm.RoadKit.acmp (g := (mkF m 2 #[.val (.ref oa), .val (.ref oa), .unset] [(.ref oa), (.ref oa)])) X0 hx rfl rfl rfl (pc0 := 2) (pc' := 5) (same := true) rfl (hb hby own_d_prog_15_m5_2) rfl (decide_eq_true rfl) (by decide) (by decide) ?_
    refine XS.iconst X0.here hx rfl (hb hby own_d_prog_15_m5_5) ?_
    exact k)
  exact own_retN X0 hx (t := .boolean) (w := (1 : Int32)) hret (by decide) rfl hlk (hb hby own_d_prog_15_m5_6) (by rw [e0]; exact (⟨rfl, N0, KK0⟩)) (by decide) (by decide)
def own_QeqE (Z : State) (oa : Addr) (ob : Addr) (va : Value) (vb : Value) (wwa : Addr) (wwb : Addr) (ua : Addr) (ub : Addr) (cs : List Int32) (ds : List Int32) (h0 : Heap) (n0 : Nat) (v : Option Value) (h : Heap) (L : List Loc) : Prop := (v = some (.int (1 : Int32)) ∧ Fr n0 L ∧ Keep h0 h [] ∧ (va = vb ∧ cs = ds)) ∨ (v = some (.int (0 : Int32)) ∧ Fr n0 L ∧ Keep h0 h [] ∧ (¬ (va = vb ∧ cs = ds)))
theorem own_ef_eqE (m : MethodId) (oa : Addr) (ob : Addr)  : entryFrame m #[(.ref oa), (.ref ob)] 3 = mkF m 0 #[.val (.ref oa), .val (.ref ob), .unset] [] := by first | (simp [entryFrame, mkF, argsToLocals, Value.category]; done) | rfl
set_option maxRecDepth 65536 in
set_option maxHeartbeats 40000000 in
theorem own_rmeqE (l : Launch) (Z : State) (a0 : Array Value) (hw : ∀ d ∈ tables_1, d.before a0 Z = true) (hst : own_St Z) (ws : List Jvm.Cond) (oa : Addr) (ob : Addr) (va : Value) (vb : Value) (wwa : Addr) (wwb : Addr) (ua : Addr) (ub : Addr) (cs : List Int32) (ds : List Int32) (h0 : Heap) (n0 : Nat) (X00 : Old Z n0 h0) (hE : Exa Z h0 oa "com/example/eager_query/eagerquery/model/Element") (hE2 : Exa Z h0 ob "com/example/eager_query/eagerquery/model/Element") (hne : oa ≠ ob) (hF1 : Fld Z h0 oa "com/example/eager_query/eagerquery/model/Element" "role" "Lcom/example/eager_query/eagerquery/model/Role;" va) (hF2 : Fld Z h0 ob "com/example/eager_query/eagerquery/model/Element" "role" "Lcom/example/eager_query/eagerquery/model/Role;" vb) (hva : va.isRef = true) (hvb : vb.isRef = true) (hF3 : Fld Z h0 oa "com/example/eager_query/eagerquery/model/Element" "word" "Ljava/lang/String;" (.ref wwa)) (hF4 : Fld Z h0 ob "com/example/eager_query/eagerquery/model/Element" "word" "Ljava/lang/String;" (.ref wwb)) (hS1 : own_Str Z h0 wwa ua cs) (hS2 : own_Str Z h0 wwb ub ds) :
    MetFree l (⟨"com/example/eager_query/eagerquery/model/Element", "equals", "(Ljava/lang/Object;)Z"⟩ : MethodName) (head1 (Jvm.Cond.code (⟨"com/example/eager_query/eagerquery/model/Element", "equals", "(Ljava/lang/Object;)Z"⟩ : MethodName) prog_15_method_5_code 3 (Option.some Jvm.ClassFile.FieldType.boolean) :: ws) ({ frames := 2, cells := 0, slots := 0, locals := 28 } : Room)) (fun a U => a = #[(.ref oa), (.ref ob)] ∧ Z.Warmed39 U.vm ∧ U.heap = h0) (fun _ _ _ _ _ => True) (fun _ U o U' => ∃ v L, o = .returned v ∧ own_QeqE Z oa ob va vb wwa wwb ua ub cs ds h0 n0 v U'.heap L ∧ FrameEnd U o U' L ({ frames := 2, cells := 0, slots := 0, locals := 28 } : Room).cells ({ frames := 2, cells := 0, slots := 0, locals := 28 } : Room).slots) := by
  refine MetFree.of_bodySF (plainFor_of_name own_pn2) hisR ?_
  intro p e s m args below meth c s₁ Bd hml0 hP hK
  obtain ⟨rfl, hZ, hh⟩ := hP
  have hx := Bd.exec
  have hby := Bd.bytes
  have hret := Bd.returns
  have hlk : meth.locks = false := BodyLoose.notSynchronized Bd
  have hml : c.maxLocals = 3 := hml0
  have hown : s.vm.findClass "com/example/eager_query/eagerquery/model/Element" = some m.cls := findClass_of_methodNamed Bd.named
  have hnm := (name_of_methodNamed Bd.named Bd.method).1
  have X0 : Stand p l e ({ frames := 2, cells := 0, slots := 0, locals := 28 } : Room) s m #[(.ref oa), (.ref ob)] below meth c s₁ [] 0 0 := Stand.of_body Bd
  have e0 : s₁.heap = h0 := by rw [← hh, Bd.state]; rfl
  have N0 := Fr.nil n0
  have KK0 : Keep h0 h0 [] := Keep.refl h0 _
  refine own_start (own_QeqE Z oa ob va vb wwa wwb ua ub cs ds h0 n0) ?_
  refine own_to (V := s₁.setTop (mkF m 0 #[.val (.ref oa), .val (.ref ob), .unset] [])) ?_ (fun t k => castTop (own_ef_eqE m oa ob ) k)
  obtain ⟨⟨G1, O2, P5⟩, ⟨G3, O4, rG3⟩, -⟩ := id hst
  refine own_to (V := s₁.setTop (mkF m 2 #[.val (.ref oa), .val (.ref ob), .unset] [(.ref ob), (.ref oa)])) ?_ fun t k => (by
    refine XS.aloadN X0.here hx rfl (hb hby own_d_prog_15_m5_0) rfl rfl ?_
    refine XS.aloadN X0.here hx rfl (hb hby own_d_prog_15_m5_1) rfl rfl ?_
    exact k)
  refine own_to (V := s₁.setTop (mkF m 8 #[.val (.ref oa), .val (.ref ob), .unset] [(.ref ob)])) ?_ fun t k => (by
    refine Jvm.RoadKit.acmp (g := (mkF m 2 #[.val (.ref oa), .val (.ref ob), .unset] [(.ref ob), (.ref oa)])) X0 hx rfl rfl rfl (pc0 := 2) (pc' := 7) (same := false) rfl (hb hby own_d_prog_15_m5_2) rfl (decide_eq_false fun q => hne (Value.ref.inj q)) (by decide) (by decide) ?_
    refine XS.aloadN X0.here hx rfl (hb hby own_d_prog_15_m5_7) rfl rfl ?_
    exact k)
  obtain ⟨T101, X101, e101, st101⟩ := instY X0 hx hZ hown (hw _ (List.mem_of_getElem? (i := 76) rfl)) e0 (Ins.self hE2) (g := (mkF m 8 #[.val (.ref oa), .val (.ref ob), .unset] [(.ref ob)])) rfl rfl (hb hby own_d_prog_15_m5_8)
  refine own_to (V := T101.setTop (mkF m 11 #[.val (.ref oa), .val (.ref ob), .unset] [(.int (1 : Int32))])) ?_ st101
  refine own_to (V := T101.setTop (mkF m 17 #[.val (.ref oa), .val (.ref ob), .unset] [(.ref ob)])) ?_ fun t k => (by
    refine XS.ifYes X101.here hx rfl (pc0 := 11) (pc' := 16) rfl (hb hby own_d_prog_15_m5_11) rfl ((if0 _ _).trans (feq ((by decide) : ¬ ((1 : Int32) = (0 : Int32)))).2) (by decide) (by decide) ?_
    refine XS.aloadN X101.here hx rfl (hb hby own_d_prog_15_m5_16) rfl rfl ?_
    exact k)
  obtain ⟨T102, X102, e102, st102⟩ := castY X101 hx hZ hown (hw _ (List.mem_of_getElem? (i := 76) rfl)) e101 (Ins.self hE2) (g := (mkF m 17 #[.val (.ref oa), .val (.ref ob), .unset] [(.ref ob)])) rfl rfl (hb hby own_d_prog_15_m5_17)
  refine own_to (V := T102.setTop (mkF m 20 #[.val (.ref oa), .val (.ref ob), .unset] [(.ref ob)])) ?_ st102
  refine own_to (V := T102.setTop (mkF m 22 #[.val (.ref oa), .val (.ref ob), .val (.ref ob)] [(.ref oa)])) ?_ fun t k => (by
    refine XS.astoreN X102.here hx rfl (hb hby own_d_prog_15_m5_20) rfl rfl (l' := #[.val (.ref oa), .val (.ref ob), .val (.ref ob)]) rfl ?_
    refine XS.aloadN X102.here hx rfl (hb hby own_d_prog_15_m5_21) rfl rfl ?_
    exact k)
  obtain ⟨T103, X103, e103, st103⟩ := getF X102 hx hZ hown (host := "") (Or.inl (hw _ (List.mem_of_getElem? (i := 60) rfl))) Via.refl e102 hF1 (g := (mkF m 22 #[.val (.ref oa), .val (.ref ob), .val (.ref ob)] [(.ref oa)])) rfl rfl (hb hby own_d_prog_15_m5_22)
  refine own_to (V := T103.setTop (mkF m 25 #[.val (.ref oa), .val (.ref ob), .val (.ref ob)] [va])) ?_ st103
  refine own_to (V := T103.setTop (mkF m 26 #[.val (.ref oa), .val (.ref ob), .val (.ref ob)] [(.ref ob), va])) ?_ fun t k => (by
    refine XS.aloadN X103.here hx rfl (hb hby own_d_prog_15_m5_25) rfl rfl ?_
    exact k)
  obtain ⟨T104, X104, e104, st104⟩ := getF X103 hx hZ hown (host := "") (Or.inl (hw _ (List.mem_of_getElem? (i := 60) rfl))) Via.refl e103 hF2 (g := (mkF m 26 #[.val (.ref oa), .val (.ref ob), .val (.ref ob)] [(.ref ob), va])) rfl rfl (hb hby own_d_prog_15_m5_26)
  refine own_to (V := T104.setTop (mkF m 29 #[.val (.ref oa), .val (.ref ob), .val (.ref ob)] [vb, va])) ?_ st104
  by_cases ha29_105 : va = vb
  · skip
    refine own_to (V := T104.setTop (mkF m 33 #[.val (.ref oa), .val (.ref ob), .val (.ref ob)] [(.ref oa)])) ?_ fun t k => (by
      refine Jvm.RoadKit.acmp (g := (mkF m 29 #[.val (.ref oa), .val (.ref ob), .val (.ref ob)] [vb, va])) X104 hx rfl hva hvb (pc0 := 29) (pc' := 32) (same := true) rfl (hb hby own_d_prog_15_m5_29) rfl (decide_eq_true ha29_105) (by decide) (by decide) ?_
      refine XS.aloadN X104.here hx rfl (hb hby own_d_prog_15_m5_32) rfl rfl ?_
      exact k)
    obtain ⟨T106, X106, e106, st106⟩ := getF X104 hx hZ hown (host := "") (Or.inl (hw _ (List.mem_of_getElem? (i := 64) rfl))) Via.refl e104 hF3 (g := (mkF m 33 #[.val (.ref oa), .val (.ref ob), .val (.ref ob)] [(.ref oa)])) rfl rfl (hb hby own_d_prog_15_m5_33)
    refine own_to (V := T106.setTop (mkF m 36 #[.val (.ref oa), .val (.ref ob), .val (.ref ob)] [(.ref wwa)])) ?_ st106
    refine own_to (V := T106.setTop (mkF m 37 #[.val (.ref oa), .val (.ref ob), .val (.ref ob)] [(.ref ob), (.ref wwa)])) ?_ fun t k => (by
      refine XS.aloadN X106.here hx rfl (hb hby own_d_prog_15_m5_36) rfl rfl ?_
      exact k)
    obtain ⟨T107, X107, e107, st107⟩ := getF X106 hx hZ hown (host := "") (Or.inl (hw _ (List.mem_of_getElem? (i := 64) rfl))) Via.refl e106 hF4 (g := (mkF m 37 #[.val (.ref oa), .val (.ref ob), .val (.ref ob)] [(.ref ob), (.ref wwa)])) rfl rfl (hb hby own_d_prog_15_m5_37)
    refine own_to (V := T107.setTop (mkF m 40 #[.val (.ref oa), .val (.ref ob), .val (.ref ob)] [(.ref wwb), (.ref wwa)])) ?_ st107
    obtain ⟨sE109, sd109, sN109, sk109, sv109, sV109, sC109, sK109, sc109, sb109, sl109⟩ := id hS1
    obtain ⟨sE110, sd110, sN110, sk110, sv110, sV110, sC110, sK110, sc110, sb110, sl110⟩ := id hS2
    obtain ⟨cq108, kq108, q108a, q108b, q108c⟩ := isOf hZ e107 hS1.1
    obtain ⟨_, _, ⟨T108, L108, k108, n108⟩, -, X108, ⟨Lc108, hQ108, l108, y108, z108⟩, st108⟩ := X107.virtualBack hx (y := (⟨"java/lang/String", "equals", "(Ljava/lang/Object;)Z"⟩ : MethodName)) (z := (⟨"java/lang/String", "equals", "(Ljava/lang/Object;)Z"⟩ : MethodName)) hown (mvT hZ (hw _ (List.mem_of_getElem? (i := 86) rfl))) (mvT hZ (hw _ (List.mem_of_getElem? (i := 87) rfl))) (notFace_of_selects (args := #[]) (mvT hZ (hw _ (List.mem_of_getElem? (i := 89) rfl)))) (mvT hZ (hw _ (List.mem_of_getElem? (i := 89) rfl))) (mvT hZ (hw _ (List.mem_of_getElem? (i := 88) rfl))) (by decide) (StrChars.Road.eqW (W := 0) hZ (own_heq hw) (kI := 4) (hw _ (List.mem_of_getElem? (i := 6) rfl)) sE109 sV109 sC109 sK109 sc109 sb109 sl109 sE110 sV110 sC110 sK110 sc110 sb110 sl110 (O2.ext X00.2) P5 (by decide) (by decide)) q108a q108c (g := (mkF m 40 #[.val (.ref oa), .val (.ref ob), .val (.ref ob)] [(.ref wwb), (.ref wwa)])) rfl (by rw [hml]; rfl) (Steps.refl _) (argsL := [(.ref wwb)]) (rest := []) (lenOf own_pd5 rfl) rfl (by show 2 * 0 + _ ≤ _; exact Nat.le_of_eq rfl) (hb hby own_d_prog_15_m5_40) (fun _ _ => ⟨rfl, e107, (by decide : 0 + 0 ≤ _), (by decide : 0 + 0 ≤ _)⟩)
    dsimp only [Pt.U, Pt.locs, Pt.cells, Pt.slots] at X108 l108 y108 z108 st108 hQ108
    subst l108 y108 z108
    obtain ⟨hv108, hL108, hh108⟩ := hQ108
    subst hL108
    have N108 := Fr.app N0 (Fr.nil n0)
    rcases hv108 with ⟨hv108, hq108⟩ | ⟨hv108, hq108⟩
    · skip
      subst hv108
      refine own_to (V := T108.setTop (mkF m 43 #[.val (.ref oa), .val (.ref ob), .val (.ref ob)] [(.int (1 : Int32))])) ?_ (fun t k => st108.trans k)
      refine own_to (V := T108.setTop (mkF m 51 #[.val (.ref oa), .val (.ref ob), .val (.ref ob)] [(.int (1 : Int32))])) ?_ fun t k => (by
        refine XS.ifNo X108.here hx rfl (hb hby own_d_prog_15_m5_43) rfl ((if0 _ _).trans (feq ((by decide) : ¬ ((1 : Int32) = (0 : Int32)))).1) ?_
        refine XS.iconst X108.here hx rfl (hb hby own_d_prog_15_m5_46) ?_
        refine XS.goto X108.here hx rfl (pc0 := 47) (pc' := 51) rfl (hb hby own_d_prog_15_m5_47) (by decide) (by decide) ?_
        exact k)
      exact own_retN X108 hx (t := .boolean) (w := (1 : Int32)) hret (by decide) rfl hlk (hb hby own_d_prog_15_m5_51) (by rw [hh108]; exact (Or.inl ⟨rfl, N108, KK0, ⟨ha29_105, hq108⟩⟩)) (by decide) (by decide)
    · skip
      subst hv108
      refine own_to (V := T108.setTop (mkF m 43 #[.val (.ref oa), .val (.ref ob), .val (.ref ob)] [(.int (0 : Int32))])) ?_ (fun t k => st108.trans k)
      refine own_to (V := T108.setTop (mkF m 51 #[.val (.ref oa), .val (.ref ob), .val (.ref ob)] [(.int (0 : Int32))])) ?_ fun t k => (by
        refine XS.ifYes X108.here hx rfl (pc0 := 43) (pc' := 50) rfl (hb hby own_d_prog_15_m5_43) rfl ((if0 _ _).trans (teq ((by decide) : (0 : Int32) = (0 : Int32))).1) (by decide) (by decide) ?_
        refine XS.iconst X108.here hx rfl (hb hby own_d_prog_15_m5_50) ?_
        exact k)
      exact own_retN X108 hx (t := .boolean) (w := (0 : Int32)) hret (by decide) rfl hlk (hb hby own_d_prog_15_m5_51) (by rw [hh108]; exact (Or.inr (⟨rfl, N108, KK0, (fun q => hq108 q.2)⟩))) (by decide) (by decide)
  · skip
    refine own_to (V := T104.setTop (mkF m 51 #[.val (.ref oa), .val (.ref ob), .val (.ref ob)] [(.int (0 : Int32))])) ?_ fun t k => (by
      refine Jvm.RoadKit.acmp (g := (mkF m 29 #[.val (.ref oa), .val (.ref ob), .val (.ref ob)] [vb, va])) X104 hx rfl hva hvb (pc0 := 29) (pc' := 50) (same := false) rfl (hb hby own_d_prog_15_m5_29) rfl (decide_eq_false ha29_105) (by decide) (by decide) ?_
      refine XS.iconst X104.here hx rfl (hb hby own_d_prog_15_m5_50) ?_
      exact k)
    exact own_retN X104 hx (t := .boolean) (w := (0 : Int32)) hret (by decide) rfl hlk (hb hby own_d_prog_15_m5_51) (by rw [e104]; exact (Or.inr (⟨rfl, N0, KK0, (fun q => ha29_105 q.1)⟩))) (by decide) (by decide)
def own_Qlaw (Z : State) (qa : Int32) (qb : Int32) (ql : Int32) (qr : Int32) (qs : Int32) (qm : Int32) (rA : Addr) (rB : Addr) (rC : Addr) (rD : Addr) (rE : Addr) (h0 : Heap) (n0 : Nat) (v : Option Value) (h : Heap) (L : List Loc) : Prop := (v = some (.int (1 : Int32)) ∧ Fr n0 L ∧ Keep h0 h [])
set_option maxRecDepth 65536 in
set_option maxHeartbeats 40000000 in
theorem own_sglaw2 (l : Launch) (Z : State) (a0 : Array Value) (hw : ∀ d ∈ tables_1, d.before a0 Z = true) (hst : own_St Z) (qa : Int32) (qb : Int32) (ql : Int32) (qr : Int32) (qs : Int32) (qm : Int32) (rA : Addr) (rB : Addr) (rC : Addr) (rD : Addr) (rE : Addr) (h0 : Heap) (n0 : Nat) (v6 : Int32) (v7 : Int32) (v8 : Int32) (v9 : Int32) (v10 : Int32) (v11 : Int32) (v12 : Int32) (v13 : Int32) (v14 : Int32) (v15 : Int32) (v16 : Int32) (v21 : Int32) (v22 : Int32) (v23 : Int32) (o17 : Addr) (o18 : Addr) (u17 : Addr) (u18 : Addr) (o19 : Addr) (o20 : Addr)
    {p : Program} {e : Env} {s : State} {m : MethodId} {args : Array Value} {below : List Frame} {meth : Method} {c : Code} (hx : p.tables.exec = Jvm.exec) (hby : c.code = code) (hret : meth.sig.returnType = ret) (hlk : meth.locks = false) (hml : c.maxLocals = 24) (hnm : meth.name = "law") {vm0 : Vm} {k0 : Nat} (hS0 : s.Since vm0 k0) (hZ : Z.Warmed39 (s.setVm vm0).vm) (hown : (s.setVm vm0).vm.findClass "com/example/eager_query/eagerquery/model/ElementEqualsPinLaw" = some m.cls)
    {T0 : State} {locs : List Loc} {h : Heap} (X0 : Stand p l e room_1 (s.setVm vm0) m args below meth c T0 locs 16 104) (e0 : T0.heap = h) (hk0 : k0 ≤ h.size) (N0 : Fr n0 locs) (Xo0 : Old Z n0 h) (KK0 : Keep h0 h []) (S17 : own_Str Z h o17 u17 (own_word v6 v9 v10 v11)) (S18 : own_Str Z h o18 u18 (own_word v7 v12 v13 v14)) (E19 : Exa Z h o19 "com/example/eager_query/eagerquery/model/Element") (E20 : Exa Z h o20 "com/example/eager_query/eagerquery/model/Element") (F19r : Fld Z h o19 "com/example/eager_query/eagerquery/model/Element" "role" "Lcom/example/eager_query/eagerquery/model/Role;" (own_roleV rA rB rC rD rE v15)) (F19w : Fld Z h o19 "com/example/eager_query/eagerquery/model/Element" "word" "Ljava/lang/String;" (.ref o17)) (F20r : Fld Z h o20 "com/example/eager_query/eagerquery/model/Element" "role" "Lcom/example/eager_query/eagerquery/model/Role;" (own_roleV rA rB rC rD rE v16)) (F20w : Fld Z h o20 "com/example/eager_query/eagerquery/model/Element" "word" "Ljava/lang/String;" (.ref o18)) (n1920 : o19 ≠ o20) (hD : (v23 = (1 : Int32) ∧ (own_roleV rA rB rC rD rE v15) = (own_roleV rA rB rC rD rE v16) ∧ (own_word v6 v9 v10 v11) = (own_word v7 v12 v13 v14)) ∨ (v23 = (0 : Int32) ∧ ¬ ((own_roleV rA rB rC rD rE v15) = (own_roleV rA rB rC rD rE v16) ∧ (own_word v6 v9 v10 v11) = (own_word v7 v12 v13 v14)))) :
    own_Go p e below (own_PostW s (own_Qlaw Z qa qb ql qr qs qm rA rB rC rD rE h0 n0) room_1.cells room_1.slots) (T0.setTop (mkF m 318 #[.val (.int qa), .val (.int qb), .val (.int ql), .val (.int qr), .val (.int qs), .val (.int qm), .val (.int v6), .val (.int v7), .val (.int v8), .val (.int v9), .val (.int v10), .val (.int v11), .val (.int v12), .val (.int v13), .val (.int v14), .val (.int v15), .val (.int v16), .val (.ref o17), .val (.ref o18), .val (.ref o19), .val (.ref o20), .val (.int v21), .val (.int v22), .val (.int v23)] [])) := by
  obtain ⟨⟨G1, O2, P5⟩, ⟨G3, O4, rG3⟩, -⟩ := id hst
  refine own_to (V := T0.setTop (mkF m 322 #[.val (.int qa), .val (.int qb), .val (.int ql), .val (.int qr), .val (.int qs), .val (.int qm), .val (.int v6), .val (.int v7), .val (.int v8), .val (.int v9), .val (.int v10), .val (.int v11), .val (.int v12), .val (.int v13), .val (.int v14), .val (.int v15), .val (.int v16), .val (.ref o17), .val (.ref o18), .val (.ref o19), .val (.ref o20), .val (.int v21), .val (.int v22), .val (.int v23)] [(.ref o20), (.ref o19)])) ?_ fun t k => (by
    refine XS.aload X0.here hx rfl (hb hby at_318) rfl rfl ?_
    refine XS.aload X0.here hx rfl (hb hby at_320) rfl rfl ?_
    exact k)
  obtain ⟨cq101, kq101, q101a, q101b, q101c⟩ := isOf hZ e0 E19
  obtain ⟨_, _, ⟨T101, L101, k101, n101⟩, -, X101, ⟨Lc101, hQ101, l101, y101, z101⟩, st101⟩ := X0.virtualBack hx (y := (⟨"com/example/eager_query/eagerquery/model/Element", "equals", "(Ljava/lang/Object;)Z"⟩ : MethodName)) (z := (⟨"com/example/eager_query/eagerquery/model/Element", "equals", "(Ljava/lang/Object;)Z"⟩ : MethodName)) hown (mvT hZ (hw _ (List.mem_of_getElem? (i := 69) rfl))) (mvT hZ (hw _ (List.mem_of_getElem? (i := 70) rfl))) (notFace_of_selects (args := #[]) (mvT hZ (hw _ (List.mem_of_getElem? (i := 72) rfl)))) (mvT hZ (hw _ (List.mem_of_getElem? (i := 72) rfl))) (mvT hZ (hw _ (List.mem_of_getElem? (i := 71) rfl))) (by decide) (backOf (W := 0) (own_rmeqE l Z a0 hw hst [] o19 o20 (own_roleV rA rB rC rD rE v15) (own_roleV rA rB rC rD rE v16) o17 o18 u17 u18 (own_word v6 v9 v10 v11) (own_word v7 v12 v13 v14) h n0 Xo0 E19 E20 n1920 F19r F20r own_roleV_ref own_roleV_ref F19w F20w S17 S18) hZ (hw _ (List.mem_of_getElem? (i := 73) rfl)) (hw _ (List.mem_of_getElem? (i := 46) rfl)) (by decide) (by decide)) q101a q101c (g := (mkF m 322 #[.val (.int qa), .val (.int qb), .val (.int ql), .val (.int qr), .val (.int qs), .val (.int qm), .val (.int v6), .val (.int v7), .val (.int v8), .val (.int v9), .val (.int v10), .val (.int v11), .val (.int v12), .val (.int v13), .val (.int v14), .val (.int v15), .val (.int v16), .val (.ref o17), .val (.ref o18), .val (.ref o19), .val (.ref o20), .val (.int v21), .val (.int v22), .val (.int v23)] [(.ref o20), (.ref o19)])) rfl (by rw [hml]; rfl) (Steps.refl _) (argsL := [(.ref o20)]) (rest := []) (lenOf own_pd5 rfl) rfl (by show 2 * 0 + _ ≤ _; exact Nat.le_of_eq rfl) (hb hby at_322) (fun _ _ => ⟨rfl, e0, (by decide : 16 + 0 ≤ _), (by decide : 104 + 0 ≤ _)⟩)
  dsimp only [Pt.U, Pt.locs, Pt.cells, Pt.slots] at X101 l101 y101 z101 st101 hQ101
  subst l101 y101 z101
  rcases hQ101 with ⟨hv101, N101q, K101, g101_0⟩ | ⟨hv101, N101q, K101, g101_0⟩
  · skip
    subst hv101
    obtain ⟨h101, e101⟩ : ∃ z, T101.heap = z := ⟨_, rfl⟩
    rw [e101] at K101
    have Xo101 : Old Z n0 h101 := Xo0.keep K101 all0
    have KK101 : Keep h0 h101 [] := KK0.trans K101 all0
    have N101 := Fr.app N0 N101q
    refine own_to (V := T101.setTop (mkF m 325 #[.val (.int qa), .val (.int qb), .val (.int ql), .val (.int qr), .val (.int qs), .val (.int qm), .val (.int v6), .val (.int v7), .val (.int v8), .val (.int v9), .val (.int v10), .val (.int v11), .val (.int v12), .val (.int v13), .val (.int v14), .val (.int v15), .val (.int v16), .val (.ref o17), .val (.ref o18), .val (.ref o19), .val (.ref o20), .val (.int v21), .val (.int v22), .val (.int v23)] [(.int (1 : Int32))])) ?_ (fun t k => st101.trans k)
    refine own_to (V := T101.setTop (mkF m 334 #[.val (.int qa), .val (.int qb), .val (.int ql), .val (.int qr), .val (.int qs), .val (.int qm), .val (.int v6), .val (.int v7), .val (.int v8), .val (.int v9), .val (.int v10), .val (.int v11), .val (.int v12), .val (.int v13), .val (.int v14), .val (.int v15), .val (.int v16), .val (.ref o17), .val (.ref o18), .val (.ref o19), .val (.ref o20), .val (.int v21), .val (.int v22), .val (.int v23)] [(.ref o19), (.ref o20)])) ?_ fun t k => (by
      refine XS.iload X101.here hx rfl (hb hby at_325) rfl ?_
      refine XS.icmpNo X101.here hx rfl (hb hby at_327) rfl (teq ((own_y1 hD g101_0) : (1 : Int32) = v23)).2 ?_
      refine XS.aload X101.here hx rfl (hb hby at_330) rfl rfl ?_
      refine XS.aload X101.here hx rfl (hb hby at_332) rfl rfl ?_
      exact k)
    have F103 : Exa Z h101 o20 "com/example/eager_query/eagerquery/model/Element" := (E20.keep K101)
    have F104 : Exa Z h101 o19 "com/example/eager_query/eagerquery/model/Element" := (E19.keep K101)
    have F105 : Fld Z h101 o20 "com/example/eager_query/eagerquery/model/Element" "role" "Lcom/example/eager_query/eagerquery/model/Role;" (own_roleV rA rB rC rD rE v16) := (F20r.keep K101 List.not_mem_nil)
    have F106 : Fld Z h101 o19 "com/example/eager_query/eagerquery/model/Element" "role" "Lcom/example/eager_query/eagerquery/model/Role;" (own_roleV rA rB rC rD rE v15) := (F19r.keep K101 List.not_mem_nil)
    have F107 : Fld Z h101 o20 "com/example/eager_query/eagerquery/model/Element" "word" "Ljava/lang/String;" (.ref o18) := (F20w.keep K101 List.not_mem_nil)
    have F108 : Fld Z h101 o19 "com/example/eager_query/eagerquery/model/Element" "word" "Ljava/lang/String;" (.ref o17) := (F19w.keep K101 List.not_mem_nil)
    have F109 : own_Str Z h101 o18 u18 (own_word v7 v12 v13 v14) := (S18.keep K101 List.not_mem_nil List.not_mem_nil)
    have F110 : own_Str Z h101 o17 u17 (own_word v6 v9 v10 v11) := (S17.keep K101 List.not_mem_nil List.not_mem_nil)
    obtain ⟨cq102, kq102, q102a, q102b, q102c⟩ := isOf hZ e101 F103
    obtain ⟨_, _, ⟨T102, L102, k102, n102⟩, -, X102, ⟨Lc102, hQ102, l102, y102, z102⟩, st102⟩ := X101.virtualBack hx (y := (⟨"com/example/eager_query/eagerquery/model/Element", "equals", "(Ljava/lang/Object;)Z"⟩ : MethodName)) (z := (⟨"com/example/eager_query/eagerquery/model/Element", "equals", "(Ljava/lang/Object;)Z"⟩ : MethodName)) hown (mvT hZ (hw _ (List.mem_of_getElem? (i := 69) rfl))) (mvT hZ (hw _ (List.mem_of_getElem? (i := 70) rfl))) (notFace_of_selects (args := #[]) (mvT hZ (hw _ (List.mem_of_getElem? (i := 72) rfl)))) (mvT hZ (hw _ (List.mem_of_getElem? (i := 72) rfl))) (mvT hZ (hw _ (List.mem_of_getElem? (i := 71) rfl))) (by decide) (backOf (W := 0) (own_rmeqE l Z a0 hw hst [] o20 o19 (own_roleV rA rB rC rD rE v16) (own_roleV rA rB rC rD rE v15) o18 o17 u18 u17 (own_word v7 v12 v13 v14) (own_word v6 v9 v10 v11) h101 n0 Xo101 F103 F104 (Ne.symm n1920) F105 F106 own_roleV_ref own_roleV_ref F107 F108 F109 F110) hZ (hw _ (List.mem_of_getElem? (i := 73) rfl)) (hw _ (List.mem_of_getElem? (i := 46) rfl)) (by decide) (by decide)) q102a q102c (g := (mkF m 334 #[.val (.int qa), .val (.int qb), .val (.int ql), .val (.int qr), .val (.int qs), .val (.int qm), .val (.int v6), .val (.int v7), .val (.int v8), .val (.int v9), .val (.int v10), .val (.int v11), .val (.int v12), .val (.int v13), .val (.int v14), .val (.int v15), .val (.int v16), .val (.ref o17), .val (.ref o18), .val (.ref o19), .val (.ref o20), .val (.int v21), .val (.int v22), .val (.int v23)] [(.ref o19), (.ref o20)])) rfl (by rw [hml]; rfl) (Steps.refl _) (argsL := [(.ref o19)]) (rest := []) (lenOf own_pd5 rfl) rfl (by show 2 * 0 + _ ≤ _; exact Nat.le_of_eq rfl) (hb hby at_334) (fun _ _ => ⟨rfl, e101, (by decide : 16 + 0 ≤ _), (by decide : 104 + 0 ≤ _)⟩)
    dsimp only [Pt.U, Pt.locs, Pt.cells, Pt.slots] at X102 l102 y102 z102 st102 hQ102
    subst l102 y102 z102
    rcases hQ102 with ⟨hv102, N102q, K102, g102_0⟩ | ⟨hv102, N102q, K102, g102_0⟩
    · skip
      subst hv102
      obtain ⟨h102, e102⟩ : ∃ z, T102.heap = z := ⟨_, rfl⟩
      rw [e102] at K102
      have Xo102 : Old Z n0 h102 := Xo101.keep K102 all0
      have KK102 : Keep h0 h102 [] := KK101.trans K102 all0
      have N102 := Fr.app N101 N102q
      refine own_to (V := T102.setTop (mkF m 337 #[.val (.int qa), .val (.int qb), .val (.int ql), .val (.int qr), .val (.int qs), .val (.int qm), .val (.int v6), .val (.int v7), .val (.int v8), .val (.int v9), .val (.int v10), .val (.int v11), .val (.int v12), .val (.int v13), .val (.int v14), .val (.int v15), .val (.int v16), .val (.ref o17), .val (.ref o18), .val (.ref o19), .val (.ref o20), .val (.int v21), .val (.int v22), .val (.int v23)] [(.int (1 : Int32))])) ?_ (fun t k => st102.trans k)
      refine own_to (V := T102.setTop (mkF m 347 #[.val (.int qa), .val (.int qb), .val (.int ql), .val (.int qr), .val (.int qs), .val (.int qm), .val (.int v6), .val (.int v7), .val (.int v8), .val (.int v9), .val (.int v10), .val (.int v11), .val (.int v12), .val (.int v13), .val (.int v14), .val (.int v15), .val (.int v16), .val (.ref o17), .val (.ref o18), .val (.ref o19), .val (.ref o20), .val (.int v21), .val (.int v22), .val (.int v23)] [(.int (1 : Int32))])) ?_ fun t k => (by
        refine XS.iload X102.here hx rfl (hb hby at_337) rfl ?_
        refine XS.icmpNo X102.here hx rfl (hb hby at_339) rfl (teq ((own_y1 hD g101_0) : (1 : Int32) = v23)).2 ?_
        refine XS.iconst X102.here hx rfl (hb hby at_342) ?_
        refine XS.goto X102.here hx rfl (pc0 := 343) (pc' := 347) rfl (hb hby at_343) (by decide) (by decide) ?_
        exact k)
      exact own_retNW X102 hx hS0 (own_hk e102 (Nat.le_trans (Nat.le_trans hk0 K101.1) K102.1)) (t := .boolean) (w := (1 : Int32)) hret (by decide) rfl hlk (hb hby at_347) (by rw [e102]; exact (⟨rfl, N102, KK102⟩)) (by decide) (by decide)
    · skip
      subst hv102
      obtain ⟨h102, e102⟩ : ∃ z, T102.heap = z := ⟨_, rfl⟩
      rw [e102] at K102
      have Xo102 : Old Z n0 h102 := Xo101.keep K102 all0
      have KK102 : Keep h0 h102 [] := KK101.trans K102 all0
      have N102 := Fr.app N101 N102q
      refine own_to (V := T102.setTop (mkF m 337 #[.val (.int qa), .val (.int qb), .val (.int ql), .val (.int qr), .val (.int qs), .val (.int qm), .val (.int v6), .val (.int v7), .val (.int v8), .val (.int v9), .val (.int v10), .val (.int v11), .val (.int v12), .val (.int v13), .val (.int v14), .val (.int v15), .val (.int v16), .val (.ref o17), .val (.ref o18), .val (.ref o19), .val (.ref o20), .val (.int v21), .val (.int v22), .val (.int v23)] [(.int (0 : Int32))])) ?_ (fun t k => st102.trans k)
      refine own_to (V := T102.setTop (mkF m 347 #[.val (.int qa), .val (.int qb), .val (.int ql), .val (.int qr), .val (.int qs), .val (.int qm), .val (.int v6), .val (.int v7), .val (.int v8), .val (.int v9), .val (.int v10), .val (.int v11), .val (.int v12), .val (.int v13), .val (.int v14), .val (.int v15), .val (.int v16), .val (.ref o17), .val (.ref o18), .val (.ref o19), .val (.ref o20), .val (.int v21), .val (.int v22), .val (.int v23)] [(.int (1 : Int32))])) ?_ fun t k => (by
        refine XS.iload X102.here hx rfl (hb hby at_337) rfl ?_
        refine XS.icmpNo X102.here hx rfl (hb hby at_339) rfl (teq ((own_y0 hD (fun q => g102_0 (own_sw q))) : (0 : Int32) = v23)).2 ?_
        refine XS.iconst X102.here hx rfl (hb hby at_342) ?_
        refine XS.goto X102.here hx rfl (pc0 := 343) (pc' := 347) rfl (hb hby at_343) (by decide) (by decide) ?_
        exact k)
      exact own_retNW X102 hx hS0 (own_hk e102 (Nat.le_trans (Nat.le_trans hk0 K101.1) K102.1)) (t := .boolean) (w := (1 : Int32)) hret (by decide) rfl hlk (hb hby at_347) (by rw [e102]; exact (⟨rfl, N102, KK102⟩)) (by decide) (by decide)
  · skip
    subst hv101
    obtain ⟨h101, e101⟩ : ∃ z, T101.heap = z := ⟨_, rfl⟩
    rw [e101] at K101
    have Xo101 : Old Z n0 h101 := Xo0.keep K101 all0
    have KK101 : Keep h0 h101 [] := KK0.trans K101 all0
    have N101 := Fr.app N0 N101q
    refine own_to (V := T101.setTop (mkF m 325 #[.val (.int qa), .val (.int qb), .val (.int ql), .val (.int qr), .val (.int qs), .val (.int qm), .val (.int v6), .val (.int v7), .val (.int v8), .val (.int v9), .val (.int v10), .val (.int v11), .val (.int v12), .val (.int v13), .val (.int v14), .val (.int v15), .val (.int v16), .val (.ref o17), .val (.ref o18), .val (.ref o19), .val (.ref o20), .val (.int v21), .val (.int v22), .val (.int v23)] [(.int (0 : Int32))])) ?_ (fun t k => st101.trans k)
    refine own_to (V := T101.setTop (mkF m 334 #[.val (.int qa), .val (.int qb), .val (.int ql), .val (.int qr), .val (.int qs), .val (.int qm), .val (.int v6), .val (.int v7), .val (.int v8), .val (.int v9), .val (.int v10), .val (.int v11), .val (.int v12), .val (.int v13), .val (.int v14), .val (.int v15), .val (.int v16), .val (.ref o17), .val (.ref o18), .val (.ref o19), .val (.ref o20), .val (.int v21), .val (.int v22), .val (.int v23)] [(.ref o19), (.ref o20)])) ?_ fun t k => (by
      refine XS.iload X101.here hx rfl (hb hby at_325) rfl ?_
      refine XS.icmpNo X101.here hx rfl (hb hby at_327) rfl (teq ((own_y0 hD g101_0) : (0 : Int32) = v23)).2 ?_
      refine XS.aload X101.here hx rfl (hb hby at_330) rfl rfl ?_
      refine XS.aload X101.here hx rfl (hb hby at_332) rfl rfl ?_
      exact k)
    have F112 : Exa Z h101 o20 "com/example/eager_query/eagerquery/model/Element" := (E20.keep K101)
    have F113 : Exa Z h101 o19 "com/example/eager_query/eagerquery/model/Element" := (E19.keep K101)
    have F114 : Fld Z h101 o20 "com/example/eager_query/eagerquery/model/Element" "role" "Lcom/example/eager_query/eagerquery/model/Role;" (own_roleV rA rB rC rD rE v16) := (F20r.keep K101 List.not_mem_nil)
    have F115 : Fld Z h101 o19 "com/example/eager_query/eagerquery/model/Element" "role" "Lcom/example/eager_query/eagerquery/model/Role;" (own_roleV rA rB rC rD rE v15) := (F19r.keep K101 List.not_mem_nil)
    have F116 : Fld Z h101 o20 "com/example/eager_query/eagerquery/model/Element" "word" "Ljava/lang/String;" (.ref o18) := (F20w.keep K101 List.not_mem_nil)
    have F117 : Fld Z h101 o19 "com/example/eager_query/eagerquery/model/Element" "word" "Ljava/lang/String;" (.ref o17) := (F19w.keep K101 List.not_mem_nil)
    have F118 : own_Str Z h101 o18 u18 (own_word v7 v12 v13 v14) := (S18.keep K101 List.not_mem_nil List.not_mem_nil)
    have F119 : own_Str Z h101 o17 u17 (own_word v6 v9 v10 v11) := (S17.keep K101 List.not_mem_nil List.not_mem_nil)
    obtain ⟨cq111, kq111, q111a, q111b, q111c⟩ := isOf hZ e101 F112
    obtain ⟨_, _, ⟨T111, L111, k111, n111⟩, -, X111, ⟨Lc111, hQ111, l111, y111, z111⟩, st111⟩ := X101.virtualBack hx (y := (⟨"com/example/eager_query/eagerquery/model/Element", "equals", "(Ljava/lang/Object;)Z"⟩ : MethodName)) (z := (⟨"com/example/eager_query/eagerquery/model/Element", "equals", "(Ljava/lang/Object;)Z"⟩ : MethodName)) hown (mvT hZ (hw _ (List.mem_of_getElem? (i := 69) rfl))) (mvT hZ (hw _ (List.mem_of_getElem? (i := 70) rfl))) (notFace_of_selects (args := #[]) (mvT hZ (hw _ (List.mem_of_getElem? (i := 72) rfl)))) (mvT hZ (hw _ (List.mem_of_getElem? (i := 72) rfl))) (mvT hZ (hw _ (List.mem_of_getElem? (i := 71) rfl))) (by decide) (backOf (W := 0) (own_rmeqE l Z a0 hw hst [] o20 o19 (own_roleV rA rB rC rD rE v16) (own_roleV rA rB rC rD rE v15) o18 o17 u18 u17 (own_word v7 v12 v13 v14) (own_word v6 v9 v10 v11) h101 n0 Xo101 F112 F113 (Ne.symm n1920) F114 F115 own_roleV_ref own_roleV_ref F116 F117 F118 F119) hZ (hw _ (List.mem_of_getElem? (i := 73) rfl)) (hw _ (List.mem_of_getElem? (i := 46) rfl)) (by decide) (by decide)) q111a q111c (g := (mkF m 334 #[.val (.int qa), .val (.int qb), .val (.int ql), .val (.int qr), .val (.int qs), .val (.int qm), .val (.int v6), .val (.int v7), .val (.int v8), .val (.int v9), .val (.int v10), .val (.int v11), .val (.int v12), .val (.int v13), .val (.int v14), .val (.int v15), .val (.int v16), .val (.ref o17), .val (.ref o18), .val (.ref o19), .val (.ref o20), .val (.int v21), .val (.int v22), .val (.int v23)] [(.ref o19), (.ref o20)])) rfl (by rw [hml]; rfl) (Steps.refl _) (argsL := [(.ref o19)]) (rest := []) (lenOf own_pd5 rfl) rfl (by show 2 * 0 + _ ≤ _; exact Nat.le_of_eq rfl) (hb hby at_334) (fun _ _ => ⟨rfl, e101, (by decide : 16 + 0 ≤ _), (by decide : 104 + 0 ≤ _)⟩)
    dsimp only [Pt.U, Pt.locs, Pt.cells, Pt.slots] at X111 l111 y111 z111 st111 hQ111
    subst l111 y111 z111
    rcases hQ111 with ⟨hv111, N111q, K111, g111_0⟩ | ⟨hv111, N111q, K111, g111_0⟩
    · skip
      subst hv111
      obtain ⟨h111, e111⟩ : ∃ z, T111.heap = z := ⟨_, rfl⟩
      rw [e111] at K111
      have Xo111 : Old Z n0 h111 := Xo101.keep K111 all0
      have KK111 : Keep h0 h111 [] := KK101.trans K111 all0
      have N111 := Fr.app N101 N111q
      refine own_to (V := T111.setTop (mkF m 337 #[.val (.int qa), .val (.int qb), .val (.int ql), .val (.int qr), .val (.int qs), .val (.int qm), .val (.int v6), .val (.int v7), .val (.int v8), .val (.int v9), .val (.int v10), .val (.int v11), .val (.int v12), .val (.int v13), .val (.int v14), .val (.int v15), .val (.int v16), .val (.ref o17), .val (.ref o18), .val (.ref o19), .val (.ref o20), .val (.int v21), .val (.int v22), .val (.int v23)] [(.int (1 : Int32))])) ?_ (fun t k => st111.trans k)
      refine own_to (V := T111.setTop (mkF m 347 #[.val (.int qa), .val (.int qb), .val (.int ql), .val (.int qr), .val (.int qs), .val (.int qm), .val (.int v6), .val (.int v7), .val (.int v8), .val (.int v9), .val (.int v10), .val (.int v11), .val (.int v12), .val (.int v13), .val (.int v14), .val (.int v15), .val (.int v16), .val (.ref o17), .val (.ref o18), .val (.ref o19), .val (.ref o20), .val (.int v21), .val (.int v22), .val (.int v23)] [(.int (1 : Int32))])) ?_ fun t k => (by
        refine XS.iload X111.here hx rfl (hb hby at_337) rfl ?_
        refine XS.icmpNo X111.here hx rfl (hb hby at_339) rfl (teq ((own_y1 hD (own_sw g111_0)) : (1 : Int32) = v23)).2 ?_
        refine XS.iconst X111.here hx rfl (hb hby at_342) ?_
        refine XS.goto X111.here hx rfl (pc0 := 343) (pc' := 347) rfl (hb hby at_343) (by decide) (by decide) ?_
        exact k)
      exact own_retNW X111 hx hS0 (own_hk e111 (Nat.le_trans (Nat.le_trans hk0 K101.1) K111.1)) (t := .boolean) (w := (1 : Int32)) hret (by decide) rfl hlk (hb hby at_347) (by rw [e111]; exact (⟨rfl, N111, KK111⟩)) (by decide) (by decide)
    · skip
      subst hv111
      obtain ⟨h111, e111⟩ : ∃ z, T111.heap = z := ⟨_, rfl⟩
      rw [e111] at K111
      have Xo111 : Old Z n0 h111 := Xo101.keep K111 all0
      have KK111 : Keep h0 h111 [] := KK101.trans K111 all0
      have N111 := Fr.app N101 N111q
      refine own_to (V := T111.setTop (mkF m 337 #[.val (.int qa), .val (.int qb), .val (.int ql), .val (.int qr), .val (.int qs), .val (.int qm), .val (.int v6), .val (.int v7), .val (.int v8), .val (.int v9), .val (.int v10), .val (.int v11), .val (.int v12), .val (.int v13), .val (.int v14), .val (.int v15), .val (.int v16), .val (.ref o17), .val (.ref o18), .val (.ref o19), .val (.ref o20), .val (.int v21), .val (.int v22), .val (.int v23)] [(.int (0 : Int32))])) ?_ (fun t k => st111.trans k)
      refine own_to (V := T111.setTop (mkF m 347 #[.val (.int qa), .val (.int qb), .val (.int ql), .val (.int qr), .val (.int qs), .val (.int qm), .val (.int v6), .val (.int v7), .val (.int v8), .val (.int v9), .val (.int v10), .val (.int v11), .val (.int v12), .val (.int v13), .val (.int v14), .val (.int v15), .val (.int v16), .val (.ref o17), .val (.ref o18), .val (.ref o19), .val (.ref o20), .val (.int v21), .val (.int v22), .val (.int v23)] [(.int (1 : Int32))])) ?_ fun t k => (by
        refine XS.iload X111.here hx rfl (hb hby at_337) rfl ?_
        refine XS.icmpNo X111.here hx rfl (hb hby at_339) rfl (teq ((own_y0 hD g101_0) : (0 : Int32) = v23)).2 ?_
        refine XS.iconst X111.here hx rfl (hb hby at_342) ?_
        refine XS.goto X111.here hx rfl (pc0 := 343) (pc' := 347) rfl (hb hby at_343) (by decide) (by decide) ?_
        exact k)
      exact own_retNW X111 hx hS0 (own_hk e111 (Nat.le_trans (Nat.le_trans hk0 K101.1) K111.1)) (t := .boolean) (w := (1 : Int32)) hret (by decide) rfl hlk (hb hby at_347) (by rw [e111]; exact (⟨rfl, N111, KK111⟩)) (by decide) (by decide)
set_option maxRecDepth 65536 in
set_option maxHeartbeats 40000000 in
theorem own_sglaw1 (l : Launch) (Z : State) (a0 : Array Value) (hw : ∀ d ∈ tables_1, d.before a0 Z = true) (hst : own_St Z) (qa : Int32) (qb : Int32) (ql : Int32) (qr : Int32) (qs : Int32) (qm : Int32) (rA : Addr) (rB : Addr) (rC : Addr) (rD : Addr) (rE : Addr) (h0 : Heap) (n0 : Nat) (v6 : Int32) (v7 : Int32) (v8 : Int32) (v9 : Int32) (v10 : Int32) (v11 : Int32) (v12 : Int32) (v13 : Int32) (v14 : Int32) (v15 : Int32) (v16 : Int32)
    {p : Program} {e : Env} {s : State} {m : MethodId} {args : Array Value} {below : List Frame} {meth : Method} {c : Code} (hx : p.tables.exec = Jvm.exec) (hby : c.code = code) (hret : meth.sig.returnType = ret) (hlk : meth.locks = false) (hml : c.maxLocals = 24) (hnm : meth.name = "law") {vm0 : Vm} {k0 : Nat} (hS0 : s.Since vm0 k0) (hZ : Z.Warmed39 (s.setVm vm0).vm) (hown : (s.setVm vm0).vm.findClass "com/example/eager_query/eagerquery/model/ElementEqualsPinLaw" = some m.cls)
    {T0 : State} {locs : List Loc} {h : Heap} (X0 : Stand p l e room_1 (s.setVm vm0) m args below meth c T0 locs 0 0) (e0 : T0.heap = h) (hk0 : k0 ≤ h.size) (N0 : Fr n0 locs) (Xo0 : Old Z n0 h) (KK0 : Keep h0 h []) (hR : own_Roles Z rA rB rC rD rE) (r9 : ¬ v9 < 0 ∧ ¬ (255 : Int32) < v9) (r10 : ¬ v10 < 0 ∧ ¬ (255 : Int32) < v10) (r11 : ¬ v11 < 0 ∧ ¬ (255 : Int32) < v11) (r12 : ¬ v12 < 0 ∧ ¬ (255 : Int32) < v12) (r13 : ¬ v13 < 0 ∧ ¬ (255 : Int32) < v13) (r14 : ¬ v14 < 0 ∧ ¬ (255 : Int32) < v14) (i6 : own_in3 v6) (i7 : own_in3 v7) (i15 : own_in6 v15) (i16 : own_in6 v16) :
    own_Go p e below (own_PostW s (own_Qlaw Z qa qb ql qr qs qm rA rB rC rD rE h0 n0) room_1.cells room_1.slots) (T0.setTop (mkF m 145 #[.val (.int qa), .val (.int qb), .val (.int ql), .val (.int qr), .val (.int qs), .val (.int qm), .val (.int v6), .val (.int v7), .val (.int v8), .val (.int v9), .val (.int v10), .val (.int v11), .val (.int v12), .val (.int v13), .val (.int v14), .val (.int v15), .val (.int v16), .unset, .unset, .unset, .unset, .unset, .unset, .unset] [])) := by
  obtain ⟨⟨G1, O2, P5⟩, ⟨G3, O4, rG3⟩, -⟩ := id hst
  refine own_to (V := T0.setTop (mkF m 153 #[.val (.int qa), .val (.int qb), .val (.int ql), .val (.int qr), .val (.int qs), .val (.int qm), .val (.int v6), .val (.int v7), .val (.int v8), .val (.int v9), .val (.int v10), .val (.int v11), .val (.int v12), .val (.int v13), .val (.int v14), .val (.int v15), .val (.int v16), .unset, .unset, .unset, .unset, .unset, .unset, .unset] [(.int v11), (.int v10), (.int v9), (.int v6)])) ?_ fun t k => (by
    refine XS.iload X0.here hx rfl (hb hby at_145) rfl ?_
    refine XS.iload X0.here hx rfl (hb hby at_147) rfl ?_
    refine XS.iload X0.here hx rfl (hb hby at_149) rfl ?_
    refine XS.iload X0.here hx rfl (hb hby at_151) rfl ?_
    exact k)
  obtain ⟨_, _, ⟨T101, L101, k101, n101⟩, -, X101, ⟨Lc101, hQ101, l101, y101, z101⟩, st101⟩ := Jvm.LawKit.callS X0 hx (y := (⟨"com/example/eager_query/eagerquery/model/ElementEqualsPinLaw", "word", "(ICCC)Ljava/lang/String;"⟩ : MethodName)) hown (mvT hZ (hw _ (List.mem_of_getElem? (i := 1) rfl))) (mvT hZ (hw _ (List.mem_of_getElem? (i := 2) rfl))) (mvT hZ (hw _ (List.mem_of_getElem? (i := 3) rfl))) (mvT hZ (hw _ (List.mem_of_getElem? (i := 4) rfl))) (by decide) (backOf (W := 0) (own_rmword l Z a0 hw hst [] v6 v9 v10 v11 h n0 Xo0 r9 r10 r11) hZ (hw _ (List.mem_of_getElem? (i := 4) rfl)) (hw _ (List.mem_of_getElem? (i := 3) rfl)) (by decide) (by decide)) (g := (mkF m 153 #[.val (.int qa), .val (.int qb), .val (.int ql), .val (.int qr), .val (.int qs), .val (.int qm), .val (.int v6), .val (.int v7), .val (.int v8), .val (.int v9), .val (.int v10), .val (.int v11), .val (.int v12), .val (.int v13), .val (.int v14), .val (.int v15), .val (.int v16), .unset, .unset, .unset, .unset, .unset, .unset, .unset] [(.int v11), (.int v10), (.int v9), (.int v6)])) rfl (by rw [hml]; rfl) (argsL := [(.int v6), (.int v9), (.int v10), (.int v11)]) (rest := []) (lenOf own_pd6 rfl) rfl (by show 2 * 0 + _ ≤ _; exact Nat.le_of_eq rfl) (hb hby at_153) (fun _ _ => ⟨rfl, e0, (by decide : 0 + 3 ≤ _), (by decide : 0 + 10 ≤ _)⟩)
  dsimp only [Pt.U, Pt.locs, Pt.cells, Pt.slots] at X101 l101 y101 z101 st101 hQ101
  subst l101 y101 z101
  obtain ⟨oa101, ou101, hv101, N101q, K101, g101_0, g101_1, g101_2, g101_3⟩ := hQ101
  subst hv101
  obtain ⟨h101, e101⟩ : ∃ z, T101.heap = z := ⟨_, rfl⟩
  rw [e101] at K101 g101_3
  have Xo101 : Old Z n0 h101 := Xo0.keep K101 all0
  have KK101 : Keep h0 h101 [] := KK0.trans K101 all0
  have N101 := Fr.app N0 N101q
  have ge_oa101 : n0 ≤ oa101 := Nat.le_trans (own_ole Xo0) g101_0
  have sz_oa101 : h0.size ≤ oa101 := Nat.le_trans KK0.1 g101_0
  have ge_ou101 : n0 ≤ ou101 := Nat.le_trans (own_ole Xo0) g101_1
  have sz_ou101 : h0.size ≤ ou101 := Nat.le_trans KK0.1 g101_1
  refine own_to (V := T101.setTop (mkF m 156 #[.val (.int qa), .val (.int qb), .val (.int ql), .val (.int qr), .val (.int qs), .val (.int qm), .val (.int v6), .val (.int v7), .val (.int v8), .val (.int v9), .val (.int v10), .val (.int v11), .val (.int v12), .val (.int v13), .val (.int v14), .val (.int v15), .val (.int v16), .unset, .unset, .unset, .unset, .unset, .unset, .unset] [(.ref oa101)])) ?_ st101
  refine own_to (V := T101.setTop (mkF m 166 #[.val (.int qa), .val (.int qb), .val (.int ql), .val (.int qr), .val (.int qs), .val (.int qm), .val (.int v6), .val (.int v7), .val (.int v8), .val (.int v9), .val (.int v10), .val (.int v11), .val (.int v12), .val (.int v13), .val (.int v14), .val (.int v15), .val (.int v16), .val (.ref oa101), .unset, .unset, .unset, .unset, .unset, .unset] [(.int v14), (.int v13), (.int v12), (.int v7)])) ?_ fun t k => (by
    refine XS.astore X101.here hx rfl (hb hby at_156) rfl rfl (l' := #[.val (.int qa), .val (.int qb), .val (.int ql), .val (.int qr), .val (.int qs), .val (.int qm), .val (.int v6), .val (.int v7), .val (.int v8), .val (.int v9), .val (.int v10), .val (.int v11), .val (.int v12), .val (.int v13), .val (.int v14), .val (.int v15), .val (.int v16), .val (.ref oa101), .unset, .unset, .unset, .unset, .unset, .unset]) rfl ?_
    refine XS.iload X101.here hx rfl (hb hby at_158) rfl ?_
    refine XS.iload X101.here hx rfl (hb hby at_160) rfl ?_
    refine XS.iload X101.here hx rfl (hb hby at_162) rfl ?_
    refine XS.iload X101.here hx rfl (hb hby at_164) rfl ?_
    exact k)
  obtain ⟨_, _, ⟨T102, L102, k102, n102⟩, -, X102, ⟨Lc102, hQ102, l102, y102, z102⟩, st102⟩ := Jvm.LawKit.callS X101 hx (y := (⟨"com/example/eager_query/eagerquery/model/ElementEqualsPinLaw", "word", "(ICCC)Ljava/lang/String;"⟩ : MethodName)) hown (mvT hZ (hw _ (List.mem_of_getElem? (i := 1) rfl))) (mvT hZ (hw _ (List.mem_of_getElem? (i := 2) rfl))) (mvT hZ (hw _ (List.mem_of_getElem? (i := 3) rfl))) (mvT hZ (hw _ (List.mem_of_getElem? (i := 4) rfl))) (by decide) (backOf (W := 0) (own_rmword l Z a0 hw hst [] v7 v12 v13 v14 h101 n0 Xo101 r12 r13 r14) hZ (hw _ (List.mem_of_getElem? (i := 4) rfl)) (hw _ (List.mem_of_getElem? (i := 3) rfl)) (by decide) (by decide)) (g := (mkF m 166 #[.val (.int qa), .val (.int qb), .val (.int ql), .val (.int qr), .val (.int qs), .val (.int qm), .val (.int v6), .val (.int v7), .val (.int v8), .val (.int v9), .val (.int v10), .val (.int v11), .val (.int v12), .val (.int v13), .val (.int v14), .val (.int v15), .val (.int v16), .val (.ref oa101), .unset, .unset, .unset, .unset, .unset, .unset] [(.int v14), (.int v13), (.int v12), (.int v7)])) rfl (by rw [hml]; rfl) (argsL := [(.int v7), (.int v12), (.int v13), (.int v14)]) (rest := []) (lenOf own_pd6 rfl) rfl (by show 2 * 0 + _ ≤ _; exact Nat.le_of_eq rfl) (hb hby at_166) (fun _ _ => ⟨rfl, e101, (by decide : 3 + 3 ≤ _), (by decide : 10 + 10 ≤ _)⟩)
  dsimp only [Pt.U, Pt.locs, Pt.cells, Pt.slots] at X102 l102 y102 z102 st102 hQ102
  subst l102 y102 z102
  obtain ⟨oa102, ou102, hv102, N102q, K102, g102_0, g102_1, g102_2, g102_3⟩ := hQ102
  subst hv102
  obtain ⟨h102, e102⟩ : ∃ z, T102.heap = z := ⟨_, rfl⟩
  rw [e102] at K102 g102_3
  have Xo102 : Old Z n0 h102 := Xo101.keep K102 all0
  have KK102 : Keep h0 h102 [] := KK101.trans K102 all0
  have N102 := Fr.app N101 N102q
  have ge_oa102 : n0 ≤ oa102 := Nat.le_trans (own_ole Xo101) g102_0
  have sz_oa102 : h0.size ≤ oa102 := Nat.le_trans KK101.1 g102_0
  have ge_ou102 : n0 ≤ ou102 := Nat.le_trans (own_ole Xo101) g102_1
  have sz_ou102 : h0.size ≤ ou102 := Nat.le_trans KK101.1 g102_1
  refine own_to (V := T102.setTop (mkF m 169 #[.val (.int qa), .val (.int qb), .val (.int ql), .val (.int qr), .val (.int qs), .val (.int qm), .val (.int v6), .val (.int v7), .val (.int v8), .val (.int v9), .val (.int v10), .val (.int v11), .val (.int v12), .val (.int v13), .val (.int v14), .val (.int v15), .val (.int v16), .val (.ref oa101), .unset, .unset, .unset, .unset, .unset, .unset] [(.ref oa102)])) ?_ st102
  refine own_to (V := T102.setTop (mkF m 175 #[.val (.int qa), .val (.int qb), .val (.int ql), .val (.int qr), .val (.int qs), .val (.int qm), .val (.int v6), .val (.int v7), .val (.int v8), .val (.int v9), .val (.int v10), .val (.int v11), .val (.int v12), .val (.int v13), .val (.int v14), .val (.int v15), .val (.int v16), .val (.ref oa101), .val (.ref oa102), .unset, .unset, .unset, .unset, .unset] [(.ref oa101), (.int v15)])) ?_ fun t k => (by
    refine XS.astore X102.here hx rfl (hb hby at_169) rfl rfl (l' := #[.val (.int qa), .val (.int qb), .val (.int ql), .val (.int qr), .val (.int qs), .val (.int qm), .val (.int v6), .val (.int v7), .val (.int v8), .val (.int v9), .val (.int v10), .val (.int v11), .val (.int v12), .val (.int v13), .val (.int v14), .val (.int v15), .val (.int v16), .val (.ref oa101), .val (.ref oa102), .unset, .unset, .unset, .unset, .unset]) rfl ?_
    refine XS.iload X102.here hx rfl (hb hby at_171) rfl ?_
    refine XS.aload X102.here hx rfl (hb hby at_173) rfl rfl ?_
    exact k)
  have F104 : own_Str Z h102 oa101 ou101 (own_word v6 v9 v10 v11) := (g101_3.keep K102 List.not_mem_nil List.not_mem_nil)
  obtain ⟨_, _, ⟨T103, L103, k103, n103⟩, -, X103', hS103', hg103, ⟨Lc103, hQ103, l103, y103, z103⟩, st103⟩ := callSS X102 hx (y := (⟨"com/example/eager_query/eagerquery/model/ElementEqualsPinLaw", "make", "(ILjava/lang/String;)Lcom/example/eager_query/eagerquery/model/Element;"⟩ : MethodName)) hown (mvT hZ (hw _ (List.mem_of_getElem? (i := 35) rfl))) (mvT hZ (hw _ (List.mem_of_getElem? (i := 36) rfl))) (mvT hZ (hw _ (List.mem_of_getElem? (i := 3) rfl))) (mvT hZ (hw _ (List.mem_of_getElem? (i := 37) rfl))) (by decide) (backOfS (W := 0) (own_rmmake l Z a0 hw hst [] v15 oa101 rA rB rC rD rE h102 n0 Xo102 hR F104.1) hZ (hw _ (List.mem_of_getElem? (i := 37) rfl)) (hw _ (List.mem_of_getElem? (i := 3) rfl)) (by decide) (by decide)) (g := (mkF m 175 #[.val (.int qa), .val (.int qb), .val (.int ql), .val (.int qr), .val (.int qs), .val (.int qm), .val (.int v6), .val (.int v7), .val (.int v8), .val (.int v9), .val (.int v10), .val (.int v11), .val (.int v12), .val (.int v13), .val (.int v14), .val (.int v15), .val (.int v16), .val (.ref oa101), .val (.ref oa102), .unset, .unset, .unset, .unset, .unset] [(.ref oa101), (.int v15)])) rfl (by rw [hml]; rfl) (argsL := [(.int v15), (.ref oa101)]) (rest := []) (lenOf own_pd7 rfl) rfl (by show 2 * 0 + _ ≤ _; exact Nat.le_of_eq rfl) (hb hby at_175) (fun _ _ => ⟨rfl, e102, (by decide : 6 + 5 ≤ _), (by decide : 20 + 42 ≤ _)⟩)
  dsimp only [Pt.U, Pt.locs, Pt.cells, Pt.slots] at X103' hS103' hg103 l103 y103 z103 st103 hQ103
  subst l103 y103 z103
  obtain ⟨X103, hS103, hZ103, hown103⟩ := rebS hS0 (own_hk e102 (Nat.le_trans (Nat.le_trans hk0 K101.1) K102.1)) X103' hS103' hg103 hZ hown
  obtain ⟨oa103, hv103, N103q, K103, g103_0, g103_1, g103_2, g103_3⟩ := hQ103
  subst hv103
  obtain ⟨h103, e103⟩ : ∃ z, T103.heap = z := ⟨_, rfl⟩
  rw [e103] at K103 g103_1 g103_2 g103_3
  have Xo103 : Old Z n0 h103 := Xo102.keep K103 all0
  have KK103 : Keep h0 h103 [] := KK102.trans K103 all0
  have hk103 : T103.heap.size ≤ h103.size := by rw [e103]; exact Nat.le_refl _
  have N103 := Fr.app N102 N103q
  have ge_oa103 : n0 ≤ oa103 := Nat.le_trans (own_ole Xo102) g103_0
  have sz_oa103 : h0.size ≤ oa103 := Nat.le_trans KK102.1 g103_0
  refine own_to (V := T103.setTop (mkF m 178 #[.val (.int qa), .val (.int qb), .val (.int ql), .val (.int qr), .val (.int qs), .val (.int qm), .val (.int v6), .val (.int v7), .val (.int v8), .val (.int v9), .val (.int v10), .val (.int v11), .val (.int v12), .val (.int v13), .val (.int v14), .val (.int v15), .val (.int v16), .val (.ref oa101), .val (.ref oa102), .unset, .unset, .unset, .unset, .unset] [(.ref oa103)])) ?_ (fun t k => st103.trans k)
  refine own_to (V := T103.setTop (mkF m 184 #[.val (.int qa), .val (.int qb), .val (.int ql), .val (.int qr), .val (.int qs), .val (.int qm), .val (.int v6), .val (.int v7), .val (.int v8), .val (.int v9), .val (.int v10), .val (.int v11), .val (.int v12), .val (.int v13), .val (.int v14), .val (.int v15), .val (.int v16), .val (.ref oa101), .val (.ref oa102), .val (.ref oa103), .unset, .unset, .unset, .unset] [(.ref oa102), (.int v16)])) ?_ fun t k => (by
    refine XS.astore X103.here hx rfl (hb hby at_178) rfl rfl (l' := #[.val (.int qa), .val (.int qb), .val (.int ql), .val (.int qr), .val (.int qs), .val (.int qm), .val (.int v6), .val (.int v7), .val (.int v8), .val (.int v9), .val (.int v10), .val (.int v11), .val (.int v12), .val (.int v13), .val (.int v14), .val (.int v15), .val (.int v16), .val (.ref oa101), .val (.ref oa102), .val (.ref oa103), .unset, .unset, .unset, .unset]) rfl ?_
    refine XS.iload X103.here hx rfl (hb hby at_180) rfl ?_
    refine XS.aload X103.here hx rfl (hb hby at_182) rfl rfl ?_
    exact k)
  have F106 : own_Str Z h103 oa102 ou102 (own_word v7 v12 v13 v14) := (g102_3.keep K103 List.not_mem_nil List.not_mem_nil)
  obtain ⟨_, _, ⟨T105, L105, k105, n105⟩, -, X105', hS105', hg105, ⟨Lc105, hQ105, l105, y105, z105⟩, st105⟩ := callSS X103 hx (y := (⟨"com/example/eager_query/eagerquery/model/ElementEqualsPinLaw", "make", "(ILjava/lang/String;)Lcom/example/eager_query/eagerquery/model/Element;"⟩ : MethodName)) hown103 (mvT hZ103 (hw _ (List.mem_of_getElem? (i := 35) rfl))) (mvT hZ103 (hw _ (List.mem_of_getElem? (i := 36) rfl))) (mvT hZ103 (hw _ (List.mem_of_getElem? (i := 3) rfl))) (mvT hZ103 (hw _ (List.mem_of_getElem? (i := 37) rfl))) (by decide) (backOfS (W := 0) (own_rmmake l Z a0 hw hst [] v16 oa102 rA rB rC rD rE h103 n0 Xo103 hR F106.1) hZ103 (hw _ (List.mem_of_getElem? (i := 37) rfl)) (hw _ (List.mem_of_getElem? (i := 3) rfl)) (by decide) (by decide)) (g := (mkF m 184 #[.val (.int qa), .val (.int qb), .val (.int ql), .val (.int qr), .val (.int qs), .val (.int qm), .val (.int v6), .val (.int v7), .val (.int v8), .val (.int v9), .val (.int v10), .val (.int v11), .val (.int v12), .val (.int v13), .val (.int v14), .val (.int v15), .val (.int v16), .val (.ref oa101), .val (.ref oa102), .val (.ref oa103), .unset, .unset, .unset, .unset] [(.ref oa102), (.int v16)])) rfl (by rw [hml]; rfl) (argsL := [(.int v16), (.ref oa102)]) (rest := []) (lenOf own_pd7 rfl) rfl (by show 2 * 0 + _ ≤ _; exact Nat.le_of_eq rfl) (hb hby at_184) (fun _ _ => ⟨rfl, e103, (by decide : 11 + 5 ≤ _), (by decide : 62 + 42 ≤ _)⟩)
  dsimp only [Pt.U, Pt.locs, Pt.cells, Pt.slots] at X105' hS105' hg105 l105 y105 z105 st105 hQ105
  subst l105 y105 z105
  obtain ⟨X105, hS105, hZ105, hown105⟩ := rebS hS103 (own_hk e103 hk103) X105' hS105' hg105 hZ103 hown103
  obtain ⟨oa105, hv105, N105q, K105, g105_0, g105_1, g105_2, g105_3⟩ := hQ105
  subst hv105
  obtain ⟨h105, e105⟩ : ∃ z, T105.heap = z := ⟨_, rfl⟩
  rw [e105] at K105 g105_1 g105_2 g105_3
  have Xo105 : Old Z n0 h105 := Xo103.keep K105 all0
  have KK105 : Keep h0 h105 [] := KK103.trans K105 all0
  have hk105 : T105.heap.size ≤ h105.size := by rw [e105]; exact Nat.le_refl _
  have N105 := Fr.app N103 N105q
  have ge_oa105 : n0 ≤ oa105 := Nat.le_trans (own_ole Xo103) g105_0
  have sz_oa105 : h0.size ≤ oa105 := Nat.le_trans KK103.1 g105_0
  refine own_to (V := T105.setTop (mkF m 187 #[.val (.int qa), .val (.int qb), .val (.int ql), .val (.int qr), .val (.int qs), .val (.int qm), .val (.int v6), .val (.int v7), .val (.int v8), .val (.int v9), .val (.int v10), .val (.int v11), .val (.int v12), .val (.int v13), .val (.int v14), .val (.int v15), .val (.int v16), .val (.ref oa101), .val (.ref oa102), .val (.ref oa103), .unset, .unset, .unset, .unset] [(.ref oa105)])) ?_ (fun t k => st105.trans k)
  obtain ⟨x107, hx107⟩ : ∃ z : Int32, z = (qm &&& (3 : Int32)) := ⟨_, rfl⟩
  refine own_to (V := T105.setTop (mkF m 195 #[.val (.int qa), .val (.int qb), .val (.int ql), .val (.int qr), .val (.int qs), .val (.int qm), .val (.int v6), .val (.int v7), .val (.int v8), .val (.int v9), .val (.int v10), .val (.int v11), .val (.int v12), .val (.int v13), .val (.int v14), .val (.int v15), .val (.int v16), .val (.ref oa101), .val (.ref oa102), .val (.ref oa103), .val (.ref oa105), .val (.int x107), .unset, .unset] [])) ?_ fun t k => (by
    first | rw [hx107] at k | skip
    refine XS.astore X105.here hx rfl (hb hby at_187) rfl rfl (l' := #[.val (.int qa), .val (.int qb), .val (.int ql), .val (.int qr), .val (.int qs), .val (.int qm), .val (.int v6), .val (.int v7), .val (.int v8), .val (.int v9), .val (.int v10), .val (.int v11), .val (.int v12), .val (.int v13), .val (.int v14), .val (.int v15), .val (.int v16), .val (.ref oa101), .val (.ref oa102), .val (.ref oa103), .val (.ref oa105), .unset, .unset, .unset]) rfl ?_
    refine XS.iload X105.here hx rfl (hb hby at_189) rfl ?_
    refine XS.iconst X105.here hx rfl (hb hby at_191) ?_
    refine XS.iand X105.here hx rfl (hb hby at_192) rfl ?_
    refine XS.istore X105.here hx rfl (hb hby at_193) rfl (l' := #[.val (.int qa), .val (.int qb), .val (.int ql), .val (.int qr), .val (.int qs), .val (.int qm), .val (.int v6), .val (.int v7), .val (.int v8), .val (.int v9), .val (.int v10), .val (.int v11), .val (.int v12), .val (.int v13), .val (.int v14), .val (.int v15), .val (.int v16), .val (.ref oa101), .val (.ref oa102), .val (.ref oa103), .val (.ref oa105), .val (.int (qm &&& (3 : Int32))), .unset, .unset]) rfl ?_
    exact k)
  refine own_to (V := T105.setTop (mkF m 198 #[.val (.int qa), .val (.int qb), .val (.int ql), .val (.int qr), .val (.int qs), .val (.int qm), .val (.int v6), .val (.int v7), .val (.int v8), .val (.int v9), .val (.int v10), .val (.int v11), .val (.int v12), .val (.int v13), .val (.int v14), .val (.int v15), .val (.int v16), .val (.ref oa101), .val (.ref oa102), .val (.ref oa103), .val (.ref oa105), .val (.int x107), .unset, .unset] [(.int (1 : Int32)), (.int x107)])) ?_ fun t k => (by
    refine XS.iload X105.here hx rfl (hb hby at_195) rfl ?_
    refine XS.iconst X105.here hx rfl (hb hby at_197) ?_
    exact k)
  by_cases hc198_108 : x107 = (1 : Int32)
  · skip
    refine own_to (V := T105.setTop (mkF m 204 #[.val (.int qa), .val (.int qb), .val (.int ql), .val (.int qr), .val (.int qs), .val (.int qm), .val (.int v6), .val (.int v7), .val (.int v8), .val (.int v9), .val (.int v10), .val (.int v11), .val (.int v12), .val (.int v13), .val (.int v14), .val (.int v15), .val (.int v16), .val (.ref oa101), .val (.ref oa102), .val (.ref oa103), .val (.ref oa105), .val (.int x107), .unset, .unset] [.null, (.ref oa103)])) ?_ fun t k => (by
      refine XS.icmpNo X105.here hx rfl (hb hby at_198) rfl (teq (hc198_108 : x107 = (1 : Int32))).2 ?_
      refine XS.aload X105.here hx rfl (hb hby at_201) rfl rfl ?_
      refine XS.aconstNull X105.here hx rfl (hb hby at_203) ?_
      exact k)
    have F110 : Exa Z h105 oa103 "com/example/eager_query/eagerquery/model/Element" := (g103_1.keep K105)
    obtain ⟨cq109, kq109, q109a, q109b, q109c⟩ := isOf hZ105 e105 F110
    obtain ⟨_, _, ⟨T109, L109, k109, n109⟩, -, X109, ⟨Lc109, hQ109, l109, y109, z109⟩, st109⟩ := X105.virtualBack hx (y := (⟨"com/example/eager_query/eagerquery/model/Element", "equals", "(Ljava/lang/Object;)Z"⟩ : MethodName)) (z := (⟨"com/example/eager_query/eagerquery/model/Element", "equals", "(Ljava/lang/Object;)Z"⟩ : MethodName)) hown105 (mvT hZ105 (hw _ (List.mem_of_getElem? (i := 69) rfl))) (mvT hZ105 (hw _ (List.mem_of_getElem? (i := 70) rfl))) (notFace_of_selects (args := #[]) (mvT hZ105 (hw _ (List.mem_of_getElem? (i := 72) rfl)))) (mvT hZ105 (hw _ (List.mem_of_getElem? (i := 72) rfl))) (mvT hZ105 (hw _ (List.mem_of_getElem? (i := 71) rfl))) (by decide) (backOf (W := 0) (own_rmeqN l Z a0 hw hst [] oa103 h105 n0 Xo105 F110) hZ105 (hw _ (List.mem_of_getElem? (i := 73) rfl)) (hw _ (List.mem_of_getElem? (i := 46) rfl)) (by decide) (by decide)) q109a q109c (g := (mkF m 204 #[.val (.int qa), .val (.int qb), .val (.int ql), .val (.int qr), .val (.int qs), .val (.int qm), .val (.int v6), .val (.int v7), .val (.int v8), .val (.int v9), .val (.int v10), .val (.int v11), .val (.int v12), .val (.int v13), .val (.int v14), .val (.int v15), .val (.int v16), .val (.ref oa101), .val (.ref oa102), .val (.ref oa103), .val (.ref oa105), .val (.int x107), .unset, .unset] [.null, (.ref oa103)])) rfl (by rw [hml]; rfl) (Steps.refl _) (argsL := [.null]) (rest := []) (lenOf own_pd5 rfl) rfl (by show 2 * 0 + _ ≤ _; exact Nat.le_of_eq rfl) (hb hby at_204) (fun _ _ => ⟨rfl, e105, (by decide : 16 + 0 ≤ _), (by decide : 104 + 0 ≤ _)⟩)
    dsimp only [Pt.U, Pt.locs, Pt.cells, Pt.slots] at X109 l109 y109 z109 st109 hQ109
    subst l109 y109 z109
    obtain ⟨hv109, N109q, K109⟩ := hQ109
    subst hv109
    obtain ⟨h109, e109⟩ : ∃ z, T109.heap = z := ⟨_, rfl⟩
    rw [e109] at K109
    have Xo109 : Old Z n0 h109 := Xo105.keep K109 all0
    have KK109 : Keep h0 h109 [] := KK105.trans K109 all0
    have N109 := Fr.app N105 N109q
    refine own_to (V := T109.setTop (mkF m 207 #[.val (.int qa), .val (.int qb), .val (.int ql), .val (.int qr), .val (.int qs), .val (.int qm), .val (.int v6), .val (.int v7), .val (.int v8), .val (.int v9), .val (.int v10), .val (.int v11), .val (.int v12), .val (.int v13), .val (.int v14), .val (.int v15), .val (.int v16), .val (.ref oa101), .val (.ref oa102), .val (.ref oa103), .val (.ref oa105), .val (.int x107), .unset, .unset] [(.int (0 : Int32))])) ?_ (fun t k => st109.trans k)
    refine own_to (V := T109.setTop (mkF m 215 #[.val (.int qa), .val (.int qb), .val (.int ql), .val (.int qr), .val (.int qs), .val (.int qm), .val (.int v6), .val (.int v7), .val (.int v8), .val (.int v9), .val (.int v10), .val (.int v11), .val (.int v12), .val (.int v13), .val (.int v14), .val (.int v15), .val (.int v16), .val (.ref oa101), .val (.ref oa102), .val (.ref oa103), .val (.ref oa105), .val (.int x107), .unset, .unset] [(.int (1 : Int32))])) ?_ fun t k => (by
      refine XS.ifNo X109.here hx rfl (hb hby at_207) rfl ((if0 _ _).trans (teq ((by decide) : (0 : Int32) = (0 : Int32))).2) ?_
      refine XS.iconst X109.here hx rfl (hb hby at_210) ?_
      refine XS.goto X109.here hx rfl (pc0 := 211) (pc' := 215) rfl (hb hby at_211) (by decide) (by decide) ?_
      exact k)
    exact own_retNW X109 hx hS105 (own_hk e109 (Nat.le_trans hk105 K109.1)) (t := .boolean) (w := (1 : Int32)) hret (by decide) rfl hlk (hb hby at_215) (by rw [e109]; exact (⟨rfl, N109, KK109⟩)) (by decide) (by decide)
  · skip
    refine own_to (V := T105.setTop (mkF m 219 #[.val (.int qa), .val (.int qb), .val (.int ql), .val (.int qr), .val (.int qs), .val (.int qm), .val (.int v6), .val (.int v7), .val (.int v8), .val (.int v9), .val (.int v10), .val (.int v11), .val (.int v12), .val (.int v13), .val (.int v14), .val (.int v15), .val (.int v16), .val (.ref oa101), .val (.ref oa102), .val (.ref oa103), .val (.ref oa105), .val (.int x107), .unset, .unset] [(.int (2 : Int32)), (.int x107)])) ?_ fun t k => (by
      refine XS.icmpYes X105.here hx rfl (pc0 := 198) (pc' := 216) rfl (hb hby at_198) rfl (feq (hc198_108 : ¬ (x107 = (1 : Int32)))).2 (by decide) (by decide) ?_
      refine XS.iload X105.here hx rfl (hb hby at_216) rfl ?_
      refine XS.iconst X105.here hx rfl (hb hby at_218) ?_
      exact k)
    by_cases hc219_111 : x107 = (2 : Int32)
    · skip
      refine own_to (V := T105.setTop (mkF m 226 #[.val (.int qa), .val (.int qb), .val (.int ql), .val (.int qr), .val (.int qs), .val (.int qm), .val (.int v6), .val (.int v7), .val (.int v8), .val (.int v9), .val (.int v10), .val (.int v11), .val (.int v12), .val (.int v13), .val (.int v14), .val (.int v15), .val (.int v16), .val (.ref oa101), .val (.ref oa102), .val (.ref oa103), .val (.ref oa105), .val (.int x107), .unset, .unset] [(.ref oa101), (.ref oa103)])) ?_ fun t k => (by
        refine XS.icmpNo X105.here hx rfl (hb hby at_219) rfl (teq (hc219_111 : x107 = (2 : Int32))).2 ?_
        refine XS.aload X105.here hx rfl (hb hby at_222) rfl rfl ?_
        refine XS.aload X105.here hx rfl (hb hby at_224) rfl rfl ?_
        exact k)
      have F113 : Exa Z h105 oa103 "com/example/eager_query/eagerquery/model/Element" := (g103_1.keep K105)
      have F114 : own_Str Z h105 oa101 ou101 (own_word v6 v9 v10 v11) := ((F104.keep K103 List.not_mem_nil List.not_mem_nil).keep K105 List.not_mem_nil List.not_mem_nil)
      obtain ⟨cq112, kq112, q112a, q112b, q112c⟩ := isOf hZ105 e105 F113
      obtain ⟨_, _, ⟨T112, L112, k112, n112⟩, -, X112, ⟨Lc112, hQ112, l112, y112, z112⟩, st112⟩ := X105.virtualBack hx (y := (⟨"com/example/eager_query/eagerquery/model/Element", "equals", "(Ljava/lang/Object;)Z"⟩ : MethodName)) (z := (⟨"com/example/eager_query/eagerquery/model/Element", "equals", "(Ljava/lang/Object;)Z"⟩ : MethodName)) hown105 (mvT hZ105 (hw _ (List.mem_of_getElem? (i := 69) rfl))) (mvT hZ105 (hw _ (List.mem_of_getElem? (i := 70) rfl))) (notFace_of_selects (args := #[]) (mvT hZ105 (hw _ (List.mem_of_getElem? (i := 72) rfl)))) (mvT hZ105 (hw _ (List.mem_of_getElem? (i := 72) rfl))) (mvT hZ105 (hw _ (List.mem_of_getElem? (i := 71) rfl))) (by decide) (backOf (W := 0) (own_rmeqS l Z a0 hw hst [] oa103 oa101 h105 n0 Xo105 F113 F114.1 (Ne.symm (Nat.ne_of_lt (Nat.lt_of_lt_of_le (Nat.lt_of_lt_of_le g101_3.lt K102.1) g103_0)))) hZ105 (hw _ (List.mem_of_getElem? (i := 73) rfl)) (hw _ (List.mem_of_getElem? (i := 46) rfl)) (by decide) (by decide)) q112a q112c (g := (mkF m 226 #[.val (.int qa), .val (.int qb), .val (.int ql), .val (.int qr), .val (.int qs), .val (.int qm), .val (.int v6), .val (.int v7), .val (.int v8), .val (.int v9), .val (.int v10), .val (.int v11), .val (.int v12), .val (.int v13), .val (.int v14), .val (.int v15), .val (.int v16), .val (.ref oa101), .val (.ref oa102), .val (.ref oa103), .val (.ref oa105), .val (.int x107), .unset, .unset] [(.ref oa101), (.ref oa103)])) rfl (by rw [hml]; rfl) (Steps.refl _) (argsL := [(.ref oa101)]) (rest := []) (lenOf own_pd5 rfl) rfl (by show 2 * 0 + _ ≤ _; exact Nat.le_of_eq rfl) (hb hby at_226) (fun _ _ => ⟨rfl, e105, (by decide : 16 + 0 ≤ _), (by decide : 104 + 0 ≤ _)⟩)
      dsimp only [Pt.U, Pt.locs, Pt.cells, Pt.slots] at X112 l112 y112 z112 st112 hQ112
      subst l112 y112 z112
      obtain ⟨hv112, N112q, K112⟩ := hQ112
      subst hv112
      obtain ⟨h112, e112⟩ : ∃ z, T112.heap = z := ⟨_, rfl⟩
      rw [e112] at K112
      have Xo112 : Old Z n0 h112 := Xo105.keep K112 all0
      have KK112 : Keep h0 h112 [] := KK105.trans K112 all0
      have N112 := Fr.app N105 N112q
      refine own_to (V := T112.setTop (mkF m 229 #[.val (.int qa), .val (.int qb), .val (.int ql), .val (.int qr), .val (.int qs), .val (.int qm), .val (.int v6), .val (.int v7), .val (.int v8), .val (.int v9), .val (.int v10), .val (.int v11), .val (.int v12), .val (.int v13), .val (.int v14), .val (.int v15), .val (.int v16), .val (.ref oa101), .val (.ref oa102), .val (.ref oa103), .val (.ref oa105), .val (.int x107), .unset, .unset] [(.int (0 : Int32))])) ?_ (fun t k => st112.trans k)
      refine own_to (V := T112.setTop (mkF m 237 #[.val (.int qa), .val (.int qb), .val (.int ql), .val (.int qr), .val (.int qs), .val (.int qm), .val (.int v6), .val (.int v7), .val (.int v8), .val (.int v9), .val (.int v10), .val (.int v11), .val (.int v12), .val (.int v13), .val (.int v14), .val (.int v15), .val (.int v16), .val (.ref oa101), .val (.ref oa102), .val (.ref oa103), .val (.ref oa105), .val (.int x107), .unset, .unset] [(.int (1 : Int32))])) ?_ fun t k => (by
        refine XS.ifNo X112.here hx rfl (hb hby at_229) rfl ((if0 _ _).trans (teq ((by decide) : (0 : Int32) = (0 : Int32))).2) ?_
        refine XS.iconst X112.here hx rfl (hb hby at_232) ?_
        refine XS.goto X112.here hx rfl (pc0 := 233) (pc' := 237) rfl (hb hby at_233) (by decide) (by decide) ?_
        exact k)
      exact own_retNW X112 hx hS105 (own_hk e112 (Nat.le_trans hk105 K112.1)) (t := .boolean) (w := (1 : Int32)) hret (by decide) rfl hlk (hb hby at_237) (by rw [e112]; exact (⟨rfl, N112, KK112⟩)) (by decide) (by decide)
    · skip
      refine own_to (V := T105.setTop (mkF m 241 #[.val (.int qa), .val (.int qb), .val (.int ql), .val (.int qr), .val (.int qs), .val (.int qm), .val (.int v6), .val (.int v7), .val (.int v8), .val (.int v9), .val (.int v10), .val (.int v11), .val (.int v12), .val (.int v13), .val (.int v14), .val (.int v15), .val (.int v16), .val (.ref oa101), .val (.ref oa102), .val (.ref oa103), .val (.ref oa105), .val (.int x107), .unset, .unset] [(.int (3 : Int32)), (.int x107)])) ?_ fun t k => (by
        refine XS.icmpYes X105.here hx rfl (pc0 := 219) (pc' := 238) rfl (hb hby at_219) rfl (feq (hc219_111 : ¬ (x107 = (2 : Int32)))).2 (by decide) (by decide) ?_
        refine XS.iload X105.here hx rfl (hb hby at_238) rfl ?_
        refine XS.iconst X105.here hx rfl (hb hby at_240) ?_
        exact k)
      by_cases hc241_115 : x107 = (3 : Int32)
      · skip
        refine own_to (V := T105.setTop (mkF m 248 #[.val (.int qa), .val (.int qb), .val (.int ql), .val (.int qr), .val (.int qs), .val (.int qm), .val (.int v6), .val (.int v7), .val (.int v8), .val (.int v9), .val (.int v10), .val (.int v11), .val (.int v12), .val (.int v13), .val (.int v14), .val (.int v15), .val (.int v16), .val (.ref oa101), .val (.ref oa102), .val (.ref oa103), .val (.ref oa105), .val (.int x107), .unset, .unset] [(.ref oa103), (.ref oa103)])) ?_ fun t k => (by
          refine XS.icmpNo X105.here hx rfl (hb hby at_241) rfl (teq (hc241_115 : x107 = (3 : Int32))).2 ?_
          refine XS.aload X105.here hx rfl (hb hby at_244) rfl rfl ?_
          refine XS.aload X105.here hx rfl (hb hby at_246) rfl rfl ?_
          exact k)
        have F117 : Exa Z h105 oa103 "com/example/eager_query/eagerquery/model/Element" := (g103_1.keep K105)
        obtain ⟨cq116, kq116, q116a, q116b, q116c⟩ := isOf hZ105 e105 F117
        obtain ⟨_, _, ⟨T116, L116, k116, n116⟩, -, X116, ⟨Lc116, hQ116, l116, y116, z116⟩, st116⟩ := X105.virtualBack hx (y := (⟨"com/example/eager_query/eagerquery/model/Element", "equals", "(Ljava/lang/Object;)Z"⟩ : MethodName)) (z := (⟨"com/example/eager_query/eagerquery/model/Element", "equals", "(Ljava/lang/Object;)Z"⟩ : MethodName)) hown105 (mvT hZ105 (hw _ (List.mem_of_getElem? (i := 69) rfl))) (mvT hZ105 (hw _ (List.mem_of_getElem? (i := 70) rfl))) (notFace_of_selects (args := #[]) (mvT hZ105 (hw _ (List.mem_of_getElem? (i := 72) rfl)))) (mvT hZ105 (hw _ (List.mem_of_getElem? (i := 72) rfl))) (mvT hZ105 (hw _ (List.mem_of_getElem? (i := 71) rfl))) (by decide) (backOf (W := 0) (own_rmeqI l Z a0 hw hst [] oa103 h105 n0 Xo105 F117) hZ105 (hw _ (List.mem_of_getElem? (i := 73) rfl)) (hw _ (List.mem_of_getElem? (i := 46) rfl)) (by decide) (by decide)) q116a q116c (g := (mkF m 248 #[.val (.int qa), .val (.int qb), .val (.int ql), .val (.int qr), .val (.int qs), .val (.int qm), .val (.int v6), .val (.int v7), .val (.int v8), .val (.int v9), .val (.int v10), .val (.int v11), .val (.int v12), .val (.int v13), .val (.int v14), .val (.int v15), .val (.int v16), .val (.ref oa101), .val (.ref oa102), .val (.ref oa103), .val (.ref oa105), .val (.int x107), .unset, .unset] [(.ref oa103), (.ref oa103)])) rfl (by rw [hml]; rfl) (Steps.refl _) (argsL := [(.ref oa103)]) (rest := []) (lenOf own_pd5 rfl) rfl (by show 2 * 0 + _ ≤ _; exact Nat.le_of_eq rfl) (hb hby at_248) (fun _ _ => ⟨rfl, e105, (by decide : 16 + 0 ≤ _), (by decide : 104 + 0 ≤ _)⟩)
        dsimp only [Pt.U, Pt.locs, Pt.cells, Pt.slots] at X116 l116 y116 z116 st116 hQ116
        subst l116 y116 z116
        obtain ⟨hv116, N116q, K116⟩ := hQ116
        subst hv116
        obtain ⟨h116, e116⟩ : ∃ z, T116.heap = z := ⟨_, rfl⟩
        rw [e116] at K116
        have Xo116 : Old Z n0 h116 := Xo105.keep K116 all0
        have KK116 : Keep h0 h116 [] := KK105.trans K116 all0
        have N116 := Fr.app N105 N116q
        refine own_to (V := T116.setTop (mkF m 251 #[.val (.int qa), .val (.int qb), .val (.int ql), .val (.int qr), .val (.int qs), .val (.int qm), .val (.int v6), .val (.int v7), .val (.int v8), .val (.int v9), .val (.int v10), .val (.int v11), .val (.int v12), .val (.int v13), .val (.int v14), .val (.int v15), .val (.int v16), .val (.ref oa101), .val (.ref oa102), .val (.ref oa103), .val (.ref oa105), .val (.int x107), .unset, .unset] [(.int (1 : Int32))])) ?_ (fun t k => st116.trans k)
        exact own_retNW X116 hx hS105 (own_hk e116 (Nat.le_trans hk105 K116.1)) (t := .boolean) (w := (1 : Int32)) hret (by decide) rfl hlk (hb hby at_251) (by rw [e116]; exact (⟨rfl, N116, KK116⟩)) (by decide) (by decide)
      · skip
        refine own_to (V := T105.setTop (mkF m 256 #[.val (.int qa), .val (.int qb), .val (.int ql), .val (.int qr), .val (.int qs), .val (.int qm), .val (.int v6), .val (.int v7), .val (.int v8), .val (.int v9), .val (.int v10), .val (.int v11), .val (.int v12), .val (.int v13), .val (.int v14), .val (.int v15), .val (.int v16), .val (.ref oa101), .val (.ref oa102), .val (.ref oa103), .val (.ref oa105), .val (.int x107), .unset, .unset] [(.int v7), (.int v6)])) ?_ fun t k => (by
          refine XS.icmpYes X105.here hx rfl (pc0 := 241) (pc' := 252) rfl (hb hby at_241) rfl (feq (hc241_115 : ¬ (x107 = (3 : Int32)))).2 (by decide) (by decide) ?_
          refine XS.iload X105.here hx rfl (hb hby at_252) rfl ?_
          refine XS.iload X105.here hx rfl (hb hby at_254) rfl ?_
          exact k)
        by_cases hc256_118 : v6 = v7
        · skip
          refine own_to (V := T105.setTop (mkF m 263 #[.val (.int qa), .val (.int qb), .val (.int ql), .val (.int qr), .val (.int qs), .val (.int qm), .val (.int v6), .val (.int v7), .val (.int v8), .val (.int v9), .val (.int v10), .val (.int v11), .val (.int v12), .val (.int v13), .val (.int v14), .val (.int v15), .val (.int v16), .val (.ref oa101), .val (.ref oa102), .val (.ref oa103), .val (.ref oa105), .val (.int x107), .unset, .unset] [(.int v12), (.int v9)])) ?_ fun t k => (by
            refine XS.icmpNo X105.here hx rfl (hb hby at_256) rfl (teq (hc256_118 : v6 = v7)).2 ?_
            refine XS.iload X105.here hx rfl (hb hby at_259) rfl ?_
            refine XS.iload X105.here hx rfl (hb hby at_261) rfl ?_
            exact k)
          by_cases hc263_119 : v9 = v12
          · skip
            refine own_to (V := T105.setTop (mkF m 269 #[.val (.int qa), .val (.int qb), .val (.int ql), .val (.int qr), .val (.int qs), .val (.int qm), .val (.int v6), .val (.int v7), .val (.int v8), .val (.int v9), .val (.int v10), .val (.int v11), .val (.int v12), .val (.int v13), .val (.int v14), .val (.int v15), .val (.int v16), .val (.ref oa101), .val (.ref oa102), .val (.ref oa103), .val (.ref oa105), .val (.int x107), .unset, .unset] [(.int (2 : Int32)), (.int v6)])) ?_ fun t k => (by
              refine XS.icmpNo X105.here hx rfl (hb hby at_263) rfl (teq (hc263_119 : v9 = v12)).2 ?_
              refine XS.iload X105.here hx rfl (hb hby at_266) rfl ?_
              refine XS.iconst X105.here hx rfl (hb hby at_268) ?_
              exact k)
            by_cases hc269_120 : v6 < (2 : Int32)
            · skip
              refine own_to (V := T105.setTop (mkF m 282 #[.val (.int qa), .val (.int qb), .val (.int ql), .val (.int qr), .val (.int qs), .val (.int qm), .val (.int v6), .val (.int v7), .val (.int v8), .val (.int v9), .val (.int v10), .val (.int v11), .val (.int v12), .val (.int v13), .val (.int v14), .val (.int v15), .val (.int v16), .val (.ref oa101), .val (.ref oa102), .val (.ref oa103), .val (.ref oa105), .val (.int x107), .unset, .unset] [(.int (3 : Int32)), (.int v6)])) ?_ fun t k => (by
                refine XS.icmpYes X105.here hx rfl (pc0 := 269) (pc' := 279) rfl (hb hby at_269) rfl (tlt (hc269_120 : v6 < (2 : Int32))).1 (by decide) (by decide) ?_
                refine XS.iload X105.here hx rfl (hb hby at_279) rfl ?_
                refine XS.iconst X105.here hx rfl (hb hby at_281) ?_
                exact k)
              by_cases hc282_121 : v6 < (3 : Int32)
              · skip
                refine own_to (V := T105.setTop (mkF m 303 #[.val (.int qa), .val (.int qb), .val (.int ql), .val (.int qr), .val (.int qs), .val (.int qm), .val (.int v6), .val (.int v7), .val (.int v8), .val (.int v9), .val (.int v10), .val (.int v11), .val (.int v12), .val (.int v13), .val (.int v14), .val (.int v15), .val (.int v16), .val (.ref oa101), .val (.ref oa102), .val (.ref oa103), .val (.ref oa105), .val (.int x107), .val (.int (1 : Int32)), .unset] [(.int v16), (.int v15)])) ?_ fun t k => (by
                  refine XS.icmpYes X105.here hx rfl (pc0 := 282) (pc' := 292) rfl (hb hby at_282) rfl (tlt (hc282_121 : v6 < (3 : Int32))).1 (by decide) (by decide) ?_
                  refine XS.iconst X105.here hx rfl (hb hby at_292) ?_
                  refine XS.goto X105.here hx rfl (pc0 := 293) (pc' := 297) rfl (hb hby at_293) (by decide) (by decide) ?_
                  refine XS.istore X105.here hx rfl (hb hby at_297) rfl (l' := #[.val (.int qa), .val (.int qb), .val (.int ql), .val (.int qr), .val (.int qs), .val (.int qm), .val (.int v6), .val (.int v7), .val (.int v8), .val (.int v9), .val (.int v10), .val (.int v11), .val (.int v12), .val (.int v13), .val (.int v14), .val (.int v15), .val (.int v16), .val (.ref oa101), .val (.ref oa102), .val (.ref oa103), .val (.ref oa105), .val (.int x107), .val (.int (1 : Int32)), .unset]) rfl ?_
                  refine XS.iload X105.here hx rfl (hb hby at_299) rfl ?_
                  refine XS.iload X105.here hx rfl (hb hby at_301) rfl ?_
                  exact k)
                by_cases hc303_122 : v15 = v16
                · skip
                  refine own_to (V := T105.setTop (mkF m 318 #[.val (.int qa), .val (.int qb), .val (.int ql), .val (.int qr), .val (.int qs), .val (.int qm), .val (.int v6), .val (.int v7), .val (.int v8), .val (.int v9), .val (.int v10), .val (.int v11), .val (.int v12), .val (.int v13), .val (.int v14), .val (.int v15), .val (.int v16), .val (.ref oa101), .val (.ref oa102), .val (.ref oa103), .val (.ref oa105), .val (.int x107), .val (.int (1 : Int32)), .val (.int (1 : Int32))] [])) ?_ fun t k => (by
                    refine XS.icmpNo X105.here hx rfl (hb hby at_303) rfl (teq (hc303_122 : v15 = v16)).2 ?_
                    refine XS.iload X105.here hx rfl (hb hby at_306) rfl ?_
                    refine XS.ifNo X105.here hx rfl (hb hby at_308) rfl ((if0 _ _).trans (feq ((by decide) : ¬ ((1 : Int32) = (0 : Int32)))).1) ?_
                    refine XS.iconst X105.here hx rfl (hb hby at_311) ?_
                    refine XS.goto X105.here hx rfl (pc0 := 312) (pc' := 316) rfl (hb hby at_312) (by decide) (by decide) ?_
                    refine XS.istore X105.here hx rfl (hb hby at_316) rfl (l' := #[.val (.int qa), .val (.int qb), .val (.int ql), .val (.int qr), .val (.int qs), .val (.int qm), .val (.int v6), .val (.int v7), .val (.int v8), .val (.int v9), .val (.int v10), .val (.int v11), .val (.int v12), .val (.int v13), .val (.int v14), .val (.int v15), .val (.int v16), .val (.ref oa101), .val (.ref oa102), .val (.ref oa103), .val (.ref oa105), .val (.int x107), .val (.int (1 : Int32)), .val (.int (1 : Int32))]) rfl ?_
                    exact k)
                  have F123 : own_Str Z h105 oa101 ou101 (own_word v6 v9 v10 v11) := ((F104.keep K103 List.not_mem_nil List.not_mem_nil).keep K105 List.not_mem_nil List.not_mem_nil)
                  have F124 : own_Str Z h105 oa102 ou102 (own_word v7 v12 v13 v14) := (F106.keep K105 List.not_mem_nil List.not_mem_nil)
                  have F125 : Exa Z h105 oa103 "com/example/eager_query/eagerquery/model/Element" := (g103_1.keep K105)
                  have F126 : Fld Z h105 oa103 "com/example/eager_query/eagerquery/model/Element" "role" "Lcom/example/eager_query/eagerquery/model/Role;" (own_roleV rA rB rC rD rE v15) := (g103_2.keep K105 List.not_mem_nil)
                  have F127 : Fld Z h105 oa103 "com/example/eager_query/eagerquery/model/Element" "word" "Ljava/lang/String;" (.ref oa101) := (g103_3.keep K105 List.not_mem_nil)
                  exact own_sglaw2 l Z a0 hw hst qa qb ql qr qs qm rA rB rC rD rE h0 n0 v6 v7 v8 v9 v10 v11 v12 v13 v14 v15 v16 x107 (1 : Int32) (1 : Int32) oa101 oa102 ou101 ou102 oa103 oa105 hx hby hret hlk hml hnm hS105 hZ105 hown105 X105 e105 hk105 N105 Xo105 KK105 F123 F124 F125 g105_1 F126 F127 g105_2 g105_3 (Nat.ne_of_lt (Nat.lt_of_lt_of_le g103_1.lt g105_0)) (Or.inl ⟨rfl, congrArg (own_roleV rA rB rC rD rE) hc303_122, (own_word_eq i6 i7).mpr ⟨hc256_118, hc263_119, Or.inl hc269_120, Or.inl hc282_121⟩⟩)
                · skip
                  refine own_to (V := T105.setTop (mkF m 318 #[.val (.int qa), .val (.int qb), .val (.int ql), .val (.int qr), .val (.int qs), .val (.int qm), .val (.int v6), .val (.int v7), .val (.int v8), .val (.int v9), .val (.int v10), .val (.int v11), .val (.int v12), .val (.int v13), .val (.int v14), .val (.int v15), .val (.int v16), .val (.ref oa101), .val (.ref oa102), .val (.ref oa103), .val (.ref oa105), .val (.int x107), .val (.int (1 : Int32)), .val (.int (0 : Int32))] [])) ?_ fun t k => (by
                    refine XS.icmpYes X105.here hx rfl (pc0 := 303) (pc' := 315) rfl (hb hby at_303) rfl (feq (hc303_122 : ¬ (v15 = v16))).2 (by decide) (by decide) ?_
                    refine XS.iconst X105.here hx rfl (hb hby at_315) ?_
                    refine XS.istore X105.here hx rfl (hb hby at_316) rfl (l' := #[.val (.int qa), .val (.int qb), .val (.int ql), .val (.int qr), .val (.int qs), .val (.int qm), .val (.int v6), .val (.int v7), .val (.int v8), .val (.int v9), .val (.int v10), .val (.int v11), .val (.int v12), .val (.int v13), .val (.int v14), .val (.int v15), .val (.int v16), .val (.ref oa101), .val (.ref oa102), .val (.ref oa103), .val (.ref oa105), .val (.int x107), .val (.int (1 : Int32)), .val (.int (0 : Int32))]) rfl ?_
                    exact k)
                  have F128 : own_Str Z h105 oa101 ou101 (own_word v6 v9 v10 v11) := ((F104.keep K103 List.not_mem_nil List.not_mem_nil).keep K105 List.not_mem_nil List.not_mem_nil)
                  have F129 : own_Str Z h105 oa102 ou102 (own_word v7 v12 v13 v14) := (F106.keep K105 List.not_mem_nil List.not_mem_nil)
                  have F130 : Exa Z h105 oa103 "com/example/eager_query/eagerquery/model/Element" := (g103_1.keep K105)
                  have F131 : Fld Z h105 oa103 "com/example/eager_query/eagerquery/model/Element" "role" "Lcom/example/eager_query/eagerquery/model/Role;" (own_roleV rA rB rC rD rE v15) := (g103_2.keep K105 List.not_mem_nil)
                  have F132 : Fld Z h105 oa103 "com/example/eager_query/eagerquery/model/Element" "word" "Ljava/lang/String;" (.ref oa101) := (g103_3.keep K105 List.not_mem_nil)
                  exact own_sglaw2 l Z a0 hw hst qa qb ql qr qs qm rA rB rC rD rE h0 n0 v6 v7 v8 v9 v10 v11 v12 v13 v14 v15 v16 x107 (1 : Int32) (0 : Int32) oa101 oa102 ou101 ou102 oa103 oa105 hx hby hret hlk hml hnm hS105 hZ105 hown105 X105 e105 hk105 N105 Xo105 KK105 F128 F129 F130 g105_1 F131 F132 g105_2 g105_3 (Nat.ne_of_lt (Nat.lt_of_lt_of_le g103_1.lt g105_0)) (Or.inr ⟨rfl, fun q => hc303_122 (own_roleV_inj hR i15 i16 q.1)⟩)
              · skip
                refine own_to (V := T105.setTop (mkF m 289 #[.val (.int qa), .val (.int qb), .val (.int ql), .val (.int qr), .val (.int qs), .val (.int qm), .val (.int v6), .val (.int v7), .val (.int v8), .val (.int v9), .val (.int v10), .val (.int v11), .val (.int v12), .val (.int v13), .val (.int v14), .val (.int v15), .val (.int v16), .val (.ref oa101), .val (.ref oa102), .val (.ref oa103), .val (.ref oa105), .val (.int x107), .unset, .unset] [(.int v14), (.int v11)])) ?_ fun t k => (by
                  refine XS.icmpNo X105.here hx rfl (hb hby at_282) rfl (flt (hc282_121 : ¬ (v6 < (3 : Int32)))).1 ?_
                  refine XS.iload X105.here hx rfl (hb hby at_285) rfl ?_
                  refine XS.iload X105.here hx rfl (hb hby at_287) rfl ?_
                  exact k)
                by_cases hc289_133 : v11 = v14
                · skip
                  refine own_to (V := T105.setTop (mkF m 303 #[.val (.int qa), .val (.int qb), .val (.int ql), .val (.int qr), .val (.int qs), .val (.int qm), .val (.int v6), .val (.int v7), .val (.int v8), .val (.int v9), .val (.int v10), .val (.int v11), .val (.int v12), .val (.int v13), .val (.int v14), .val (.int v15), .val (.int v16), .val (.ref oa101), .val (.ref oa102), .val (.ref oa103), .val (.ref oa105), .val (.int x107), .val (.int (1 : Int32)), .unset] [(.int v16), (.int v15)])) ?_ fun t k => (by
                    refine XS.icmpNo X105.here hx rfl (hb hby at_289) rfl (teq (hc289_133 : v11 = v14)).2 ?_
                    refine XS.iconst X105.here hx rfl (hb hby at_292) ?_
                    refine XS.goto X105.here hx rfl (pc0 := 293) (pc' := 297) rfl (hb hby at_293) (by decide) (by decide) ?_
                    refine XS.istore X105.here hx rfl (hb hby at_297) rfl (l' := #[.val (.int qa), .val (.int qb), .val (.int ql), .val (.int qr), .val (.int qs), .val (.int qm), .val (.int v6), .val (.int v7), .val (.int v8), .val (.int v9), .val (.int v10), .val (.int v11), .val (.int v12), .val (.int v13), .val (.int v14), .val (.int v15), .val (.int v16), .val (.ref oa101), .val (.ref oa102), .val (.ref oa103), .val (.ref oa105), .val (.int x107), .val (.int (1 : Int32)), .unset]) rfl ?_
                    refine XS.iload X105.here hx rfl (hb hby at_299) rfl ?_
                    refine XS.iload X105.here hx rfl (hb hby at_301) rfl ?_
                    exact k)
                  by_cases hc303_134 : v15 = v16
                  · skip
                    refine own_to (V := T105.setTop (mkF m 318 #[.val (.int qa), .val (.int qb), .val (.int ql), .val (.int qr), .val (.int qs), .val (.int qm), .val (.int v6), .val (.int v7), .val (.int v8), .val (.int v9), .val (.int v10), .val (.int v11), .val (.int v12), .val (.int v13), .val (.int v14), .val (.int v15), .val (.int v16), .val (.ref oa101), .val (.ref oa102), .val (.ref oa103), .val (.ref oa105), .val (.int x107), .val (.int (1 : Int32)), .val (.int (1 : Int32))] [])) ?_ fun t k => (by
                      refine XS.icmpNo X105.here hx rfl (hb hby at_303) rfl (teq (hc303_134 : v15 = v16)).2 ?_
                      refine XS.iload X105.here hx rfl (hb hby at_306) rfl ?_
                      refine XS.ifNo X105.here hx rfl (hb hby at_308) rfl ((if0 _ _).trans (feq ((by decide) : ¬ ((1 : Int32) = (0 : Int32)))).1) ?_
                      refine XS.iconst X105.here hx rfl (hb hby at_311) ?_
                      refine XS.goto X105.here hx rfl (pc0 := 312) (pc' := 316) rfl (hb hby at_312) (by decide) (by decide) ?_
                      refine XS.istore X105.here hx rfl (hb hby at_316) rfl (l' := #[.val (.int qa), .val (.int qb), .val (.int ql), .val (.int qr), .val (.int qs), .val (.int qm), .val (.int v6), .val (.int v7), .val (.int v8), .val (.int v9), .val (.int v10), .val (.int v11), .val (.int v12), .val (.int v13), .val (.int v14), .val (.int v15), .val (.int v16), .val (.ref oa101), .val (.ref oa102), .val (.ref oa103), .val (.ref oa105), .val (.int x107), .val (.int (1 : Int32)), .val (.int (1 : Int32))]) rfl ?_
                      exact k)
                    have F135 : own_Str Z h105 oa101 ou101 (own_word v6 v9 v10 v11) := ((F104.keep K103 List.not_mem_nil List.not_mem_nil).keep K105 List.not_mem_nil List.not_mem_nil)
                    have F136 : own_Str Z h105 oa102 ou102 (own_word v7 v12 v13 v14) := (F106.keep K105 List.not_mem_nil List.not_mem_nil)
                    have F137 : Exa Z h105 oa103 "com/example/eager_query/eagerquery/model/Element" := (g103_1.keep K105)
                    have F138 : Fld Z h105 oa103 "com/example/eager_query/eagerquery/model/Element" "role" "Lcom/example/eager_query/eagerquery/model/Role;" (own_roleV rA rB rC rD rE v15) := (g103_2.keep K105 List.not_mem_nil)
                    have F139 : Fld Z h105 oa103 "com/example/eager_query/eagerquery/model/Element" "word" "Ljava/lang/String;" (.ref oa101) := (g103_3.keep K105 List.not_mem_nil)
                    exact own_sglaw2 l Z a0 hw hst qa qb ql qr qs qm rA rB rC rD rE h0 n0 v6 v7 v8 v9 v10 v11 v12 v13 v14 v15 v16 x107 (1 : Int32) (1 : Int32) oa101 oa102 ou101 ou102 oa103 oa105 hx hby hret hlk hml hnm hS105 hZ105 hown105 X105 e105 hk105 N105 Xo105 KK105 F135 F136 F137 g105_1 F138 F139 g105_2 g105_3 (Nat.ne_of_lt (Nat.lt_of_lt_of_le g103_1.lt g105_0)) (Or.inl ⟨rfl, congrArg (own_roleV rA rB rC rD rE) hc303_134, (own_word_eq i6 i7).mpr ⟨hc256_118, hc263_119, Or.inl hc269_120, Or.inr hc289_133⟩⟩)
                  · skip
                    refine own_to (V := T105.setTop (mkF m 318 #[.val (.int qa), .val (.int qb), .val (.int ql), .val (.int qr), .val (.int qs), .val (.int qm), .val (.int v6), .val (.int v7), .val (.int v8), .val (.int v9), .val (.int v10), .val (.int v11), .val (.int v12), .val (.int v13), .val (.int v14), .val (.int v15), .val (.int v16), .val (.ref oa101), .val (.ref oa102), .val (.ref oa103), .val (.ref oa105), .val (.int x107), .val (.int (1 : Int32)), .val (.int (0 : Int32))] [])) ?_ fun t k => (by
                      refine XS.icmpYes X105.here hx rfl (pc0 := 303) (pc' := 315) rfl (hb hby at_303) rfl (feq (hc303_134 : ¬ (v15 = v16))).2 (by decide) (by decide) ?_
                      refine XS.iconst X105.here hx rfl (hb hby at_315) ?_
                      refine XS.istore X105.here hx rfl (hb hby at_316) rfl (l' := #[.val (.int qa), .val (.int qb), .val (.int ql), .val (.int qr), .val (.int qs), .val (.int qm), .val (.int v6), .val (.int v7), .val (.int v8), .val (.int v9), .val (.int v10), .val (.int v11), .val (.int v12), .val (.int v13), .val (.int v14), .val (.int v15), .val (.int v16), .val (.ref oa101), .val (.ref oa102), .val (.ref oa103), .val (.ref oa105), .val (.int x107), .val (.int (1 : Int32)), .val (.int (0 : Int32))]) rfl ?_
                      exact k)
                    have F140 : own_Str Z h105 oa101 ou101 (own_word v6 v9 v10 v11) := ((F104.keep K103 List.not_mem_nil List.not_mem_nil).keep K105 List.not_mem_nil List.not_mem_nil)
                    have F141 : own_Str Z h105 oa102 ou102 (own_word v7 v12 v13 v14) := (F106.keep K105 List.not_mem_nil List.not_mem_nil)
                    have F142 : Exa Z h105 oa103 "com/example/eager_query/eagerquery/model/Element" := (g103_1.keep K105)
                    have F143 : Fld Z h105 oa103 "com/example/eager_query/eagerquery/model/Element" "role" "Lcom/example/eager_query/eagerquery/model/Role;" (own_roleV rA rB rC rD rE v15) := (g103_2.keep K105 List.not_mem_nil)
                    have F144 : Fld Z h105 oa103 "com/example/eager_query/eagerquery/model/Element" "word" "Ljava/lang/String;" (.ref oa101) := (g103_3.keep K105 List.not_mem_nil)
                    exact own_sglaw2 l Z a0 hw hst qa qb ql qr qs qm rA rB rC rD rE h0 n0 v6 v7 v8 v9 v10 v11 v12 v13 v14 v15 v16 x107 (1 : Int32) (0 : Int32) oa101 oa102 ou101 ou102 oa103 oa105 hx hby hret hlk hml hnm hS105 hZ105 hown105 X105 e105 hk105 N105 Xo105 KK105 F140 F141 F142 g105_1 F143 F144 g105_2 g105_3 (Nat.ne_of_lt (Nat.lt_of_lt_of_le g103_1.lt g105_0)) (Or.inr ⟨rfl, fun q => hc303_134 (own_roleV_inj hR i15 i16 q.1)⟩)
                · skip
                  refine own_to (V := T105.setTop (mkF m 303 #[.val (.int qa), .val (.int qb), .val (.int ql), .val (.int qr), .val (.int qs), .val (.int qm), .val (.int v6), .val (.int v7), .val (.int v8), .val (.int v9), .val (.int v10), .val (.int v11), .val (.int v12), .val (.int v13), .val (.int v14), .val (.int v15), .val (.int v16), .val (.ref oa101), .val (.ref oa102), .val (.ref oa103), .val (.ref oa105), .val (.int x107), .val (.int (0 : Int32)), .unset] [(.int v16), (.int v15)])) ?_ fun t k => (by
                    refine XS.icmpYes X105.here hx rfl (pc0 := 289) (pc' := 296) rfl (hb hby at_289) rfl (feq (hc289_133 : ¬ (v11 = v14))).2 (by decide) (by decide) ?_
                    refine XS.iconst X105.here hx rfl (hb hby at_296) ?_
                    refine XS.istore X105.here hx rfl (hb hby at_297) rfl (l' := #[.val (.int qa), .val (.int qb), .val (.int ql), .val (.int qr), .val (.int qs), .val (.int qm), .val (.int v6), .val (.int v7), .val (.int v8), .val (.int v9), .val (.int v10), .val (.int v11), .val (.int v12), .val (.int v13), .val (.int v14), .val (.int v15), .val (.int v16), .val (.ref oa101), .val (.ref oa102), .val (.ref oa103), .val (.ref oa105), .val (.int x107), .val (.int (0 : Int32)), .unset]) rfl ?_
                    refine XS.iload X105.here hx rfl (hb hby at_299) rfl ?_
                    refine XS.iload X105.here hx rfl (hb hby at_301) rfl ?_
                    exact k)
                  by_cases hc303_145 : v15 = v16
                  · skip
                    refine own_to (V := T105.setTop (mkF m 318 #[.val (.int qa), .val (.int qb), .val (.int ql), .val (.int qr), .val (.int qs), .val (.int qm), .val (.int v6), .val (.int v7), .val (.int v8), .val (.int v9), .val (.int v10), .val (.int v11), .val (.int v12), .val (.int v13), .val (.int v14), .val (.int v15), .val (.int v16), .val (.ref oa101), .val (.ref oa102), .val (.ref oa103), .val (.ref oa105), .val (.int x107), .val (.int (0 : Int32)), .val (.int (0 : Int32))] [])) ?_ fun t k => (by
                      refine XS.icmpNo X105.here hx rfl (hb hby at_303) rfl (teq (hc303_145 : v15 = v16)).2 ?_
                      refine XS.iload X105.here hx rfl (hb hby at_306) rfl ?_
                      refine XS.ifYes X105.here hx rfl (pc0 := 308) (pc' := 315) rfl (hb hby at_308) rfl ((if0 _ _).trans (teq ((by decide) : (0 : Int32) = (0 : Int32))).1) (by decide) (by decide) ?_
                      refine XS.iconst X105.here hx rfl (hb hby at_315) ?_
                      refine XS.istore X105.here hx rfl (hb hby at_316) rfl (l' := #[.val (.int qa), .val (.int qb), .val (.int ql), .val (.int qr), .val (.int qs), .val (.int qm), .val (.int v6), .val (.int v7), .val (.int v8), .val (.int v9), .val (.int v10), .val (.int v11), .val (.int v12), .val (.int v13), .val (.int v14), .val (.int v15), .val (.int v16), .val (.ref oa101), .val (.ref oa102), .val (.ref oa103), .val (.ref oa105), .val (.int x107), .val (.int (0 : Int32)), .val (.int (0 : Int32))]) rfl ?_
                      exact k)
                    have F146 : own_Str Z h105 oa101 ou101 (own_word v6 v9 v10 v11) := ((F104.keep K103 List.not_mem_nil List.not_mem_nil).keep K105 List.not_mem_nil List.not_mem_nil)
                    have F147 : own_Str Z h105 oa102 ou102 (own_word v7 v12 v13 v14) := (F106.keep K105 List.not_mem_nil List.not_mem_nil)
                    have F148 : Exa Z h105 oa103 "com/example/eager_query/eagerquery/model/Element" := (g103_1.keep K105)
                    have F149 : Fld Z h105 oa103 "com/example/eager_query/eagerquery/model/Element" "role" "Lcom/example/eager_query/eagerquery/model/Role;" (own_roleV rA rB rC rD rE v15) := (g103_2.keep K105 List.not_mem_nil)
                    have F150 : Fld Z h105 oa103 "com/example/eager_query/eagerquery/model/Element" "word" "Ljava/lang/String;" (.ref oa101) := (g103_3.keep K105 List.not_mem_nil)
                    exact own_sglaw2 l Z a0 hw hst qa qb ql qr qs qm rA rB rC rD rE h0 n0 v6 v7 v8 v9 v10 v11 v12 v13 v14 v15 v16 x107 (0 : Int32) (0 : Int32) oa101 oa102 ou101 ou102 oa103 oa105 hx hby hret hlk hml hnm hS105 hZ105 hown105 X105 e105 hk105 N105 Xo105 KK105 F146 F147 F148 g105_1 F149 F150 g105_2 g105_3 (Nat.ne_of_lt (Nat.lt_of_lt_of_le g103_1.lt g105_0)) (Or.inr ⟨rfl, fun q => (fun w => w.2.2.2.elim hc282_121 hc289_133) ((own_word_eq i6 i7).mp q.2)⟩)
                  · skip
                    refine own_to (V := T105.setTop (mkF m 318 #[.val (.int qa), .val (.int qb), .val (.int ql), .val (.int qr), .val (.int qs), .val (.int qm), .val (.int v6), .val (.int v7), .val (.int v8), .val (.int v9), .val (.int v10), .val (.int v11), .val (.int v12), .val (.int v13), .val (.int v14), .val (.int v15), .val (.int v16), .val (.ref oa101), .val (.ref oa102), .val (.ref oa103), .val (.ref oa105), .val (.int x107), .val (.int (0 : Int32)), .val (.int (0 : Int32))] [])) ?_ fun t k => (by
                      refine XS.icmpYes X105.here hx rfl (pc0 := 303) (pc' := 315) rfl (hb hby at_303) rfl (feq (hc303_145 : ¬ (v15 = v16))).2 (by decide) (by decide) ?_
                      refine XS.iconst X105.here hx rfl (hb hby at_315) ?_
                      refine XS.istore X105.here hx rfl (hb hby at_316) rfl (l' := #[.val (.int qa), .val (.int qb), .val (.int ql), .val (.int qr), .val (.int qs), .val (.int qm), .val (.int v6), .val (.int v7), .val (.int v8), .val (.int v9), .val (.int v10), .val (.int v11), .val (.int v12), .val (.int v13), .val (.int v14), .val (.int v15), .val (.int v16), .val (.ref oa101), .val (.ref oa102), .val (.ref oa103), .val (.ref oa105), .val (.int x107), .val (.int (0 : Int32)), .val (.int (0 : Int32))]) rfl ?_
                      exact k)
                    have F151 : own_Str Z h105 oa101 ou101 (own_word v6 v9 v10 v11) := ((F104.keep K103 List.not_mem_nil List.not_mem_nil).keep K105 List.not_mem_nil List.not_mem_nil)
                    have F152 : own_Str Z h105 oa102 ou102 (own_word v7 v12 v13 v14) := (F106.keep K105 List.not_mem_nil List.not_mem_nil)
                    have F153 : Exa Z h105 oa103 "com/example/eager_query/eagerquery/model/Element" := (g103_1.keep K105)
                    have F154 : Fld Z h105 oa103 "com/example/eager_query/eagerquery/model/Element" "role" "Lcom/example/eager_query/eagerquery/model/Role;" (own_roleV rA rB rC rD rE v15) := (g103_2.keep K105 List.not_mem_nil)
                    have F155 : Fld Z h105 oa103 "com/example/eager_query/eagerquery/model/Element" "word" "Ljava/lang/String;" (.ref oa101) := (g103_3.keep K105 List.not_mem_nil)
                    exact own_sglaw2 l Z a0 hw hst qa qb ql qr qs qm rA rB rC rD rE h0 n0 v6 v7 v8 v9 v10 v11 v12 v13 v14 v15 v16 x107 (0 : Int32) (0 : Int32) oa101 oa102 ou101 ou102 oa103 oa105 hx hby hret hlk hml hnm hS105 hZ105 hown105 X105 e105 hk105 N105 Xo105 KK105 F151 F152 F153 g105_1 F154 F155 g105_2 g105_3 (Nat.ne_of_lt (Nat.lt_of_lt_of_le g103_1.lt g105_0)) (Or.inr ⟨rfl, fun q => hc303_145 (own_roleV_inj hR i15 i16 q.1)⟩)
            · skip
              refine own_to (V := T105.setTop (mkF m 276 #[.val (.int qa), .val (.int qb), .val (.int ql), .val (.int qr), .val (.int qs), .val (.int qm), .val (.int v6), .val (.int v7), .val (.int v8), .val (.int v9), .val (.int v10), .val (.int v11), .val (.int v12), .val (.int v13), .val (.int v14), .val (.int v15), .val (.int v16), .val (.ref oa101), .val (.ref oa102), .val (.ref oa103), .val (.ref oa105), .val (.int x107), .unset, .unset] [(.int v13), (.int v10)])) ?_ fun t k => (by
                refine XS.icmpNo X105.here hx rfl (hb hby at_269) rfl (flt (hc269_120 : ¬ (v6 < (2 : Int32)))).1 ?_
                refine XS.iload X105.here hx rfl (hb hby at_272) rfl ?_
                refine XS.iload X105.here hx rfl (hb hby at_274) rfl ?_
                exact k)
              by_cases hc276_156 : v10 = v13
              · skip
                refine own_to (V := T105.setTop (mkF m 282 #[.val (.int qa), .val (.int qb), .val (.int ql), .val (.int qr), .val (.int qs), .val (.int qm), .val (.int v6), .val (.int v7), .val (.int v8), .val (.int v9), .val (.int v10), .val (.int v11), .val (.int v12), .val (.int v13), .val (.int v14), .val (.int v15), .val (.int v16), .val (.ref oa101), .val (.ref oa102), .val (.ref oa103), .val (.ref oa105), .val (.int x107), .unset, .unset] [(.int (3 : Int32)), (.int v6)])) ?_ fun t k => (by
                  refine XS.icmpNo X105.here hx rfl (hb hby at_276) rfl (teq (hc276_156 : v10 = v13)).2 ?_
                  refine XS.iload X105.here hx rfl (hb hby at_279) rfl ?_
                  refine XS.iconst X105.here hx rfl (hb hby at_281) ?_
                  exact k)
                by_cases hc282_157 : v6 < (3 : Int32)
                · skip
                  refine own_to (V := T105.setTop (mkF m 303 #[.val (.int qa), .val (.int qb), .val (.int ql), .val (.int qr), .val (.int qs), .val (.int qm), .val (.int v6), .val (.int v7), .val (.int v8), .val (.int v9), .val (.int v10), .val (.int v11), .val (.int v12), .val (.int v13), .val (.int v14), .val (.int v15), .val (.int v16), .val (.ref oa101), .val (.ref oa102), .val (.ref oa103), .val (.ref oa105), .val (.int x107), .val (.int (1 : Int32)), .unset] [(.int v16), (.int v15)])) ?_ fun t k => (by
                    refine XS.icmpYes X105.here hx rfl (pc0 := 282) (pc' := 292) rfl (hb hby at_282) rfl (tlt (hc282_157 : v6 < (3 : Int32))).1 (by decide) (by decide) ?_
                    refine XS.iconst X105.here hx rfl (hb hby at_292) ?_
                    refine XS.goto X105.here hx rfl (pc0 := 293) (pc' := 297) rfl (hb hby at_293) (by decide) (by decide) ?_
                    refine XS.istore X105.here hx rfl (hb hby at_297) rfl (l' := #[.val (.int qa), .val (.int qb), .val (.int ql), .val (.int qr), .val (.int qs), .val (.int qm), .val (.int v6), .val (.int v7), .val (.int v8), .val (.int v9), .val (.int v10), .val (.int v11), .val (.int v12), .val (.int v13), .val (.int v14), .val (.int v15), .val (.int v16), .val (.ref oa101), .val (.ref oa102), .val (.ref oa103), .val (.ref oa105), .val (.int x107), .val (.int (1 : Int32)), .unset]) rfl ?_
                    refine XS.iload X105.here hx rfl (hb hby at_299) rfl ?_
                    refine XS.iload X105.here hx rfl (hb hby at_301) rfl ?_
                    exact k)
                  by_cases hc303_158 : v15 = v16
                  · skip
                    refine own_to (V := T105.setTop (mkF m 318 #[.val (.int qa), .val (.int qb), .val (.int ql), .val (.int qr), .val (.int qs), .val (.int qm), .val (.int v6), .val (.int v7), .val (.int v8), .val (.int v9), .val (.int v10), .val (.int v11), .val (.int v12), .val (.int v13), .val (.int v14), .val (.int v15), .val (.int v16), .val (.ref oa101), .val (.ref oa102), .val (.ref oa103), .val (.ref oa105), .val (.int x107), .val (.int (1 : Int32)), .val (.int (1 : Int32))] [])) ?_ fun t k => (by
                      refine XS.icmpNo X105.here hx rfl (hb hby at_303) rfl (teq (hc303_158 : v15 = v16)).2 ?_
                      refine XS.iload X105.here hx rfl (hb hby at_306) rfl ?_
                      refine XS.ifNo X105.here hx rfl (hb hby at_308) rfl ((if0 _ _).trans (feq ((by decide) : ¬ ((1 : Int32) = (0 : Int32)))).1) ?_
                      refine XS.iconst X105.here hx rfl (hb hby at_311) ?_
                      refine XS.goto X105.here hx rfl (pc0 := 312) (pc' := 316) rfl (hb hby at_312) (by decide) (by decide) ?_
                      refine XS.istore X105.here hx rfl (hb hby at_316) rfl (l' := #[.val (.int qa), .val (.int qb), .val (.int ql), .val (.int qr), .val (.int qs), .val (.int qm), .val (.int v6), .val (.int v7), .val (.int v8), .val (.int v9), .val (.int v10), .val (.int v11), .val (.int v12), .val (.int v13), .val (.int v14), .val (.int v15), .val (.int v16), .val (.ref oa101), .val (.ref oa102), .val (.ref oa103), .val (.ref oa105), .val (.int x107), .val (.int (1 : Int32)), .val (.int (1 : Int32))]) rfl ?_
                      exact k)
                    have F159 : own_Str Z h105 oa101 ou101 (own_word v6 v9 v10 v11) := ((F104.keep K103 List.not_mem_nil List.not_mem_nil).keep K105 List.not_mem_nil List.not_mem_nil)
                    have F160 : own_Str Z h105 oa102 ou102 (own_word v7 v12 v13 v14) := (F106.keep K105 List.not_mem_nil List.not_mem_nil)
                    have F161 : Exa Z h105 oa103 "com/example/eager_query/eagerquery/model/Element" := (g103_1.keep K105)
                    have F162 : Fld Z h105 oa103 "com/example/eager_query/eagerquery/model/Element" "role" "Lcom/example/eager_query/eagerquery/model/Role;" (own_roleV rA rB rC rD rE v15) := (g103_2.keep K105 List.not_mem_nil)
                    have F163 : Fld Z h105 oa103 "com/example/eager_query/eagerquery/model/Element" "word" "Ljava/lang/String;" (.ref oa101) := (g103_3.keep K105 List.not_mem_nil)
                    exact own_sglaw2 l Z a0 hw hst qa qb ql qr qs qm rA rB rC rD rE h0 n0 v6 v7 v8 v9 v10 v11 v12 v13 v14 v15 v16 x107 (1 : Int32) (1 : Int32) oa101 oa102 ou101 ou102 oa103 oa105 hx hby hret hlk hml hnm hS105 hZ105 hown105 X105 e105 hk105 N105 Xo105 KK105 F159 F160 F161 g105_1 F162 F163 g105_2 g105_3 (Nat.ne_of_lt (Nat.lt_of_lt_of_le g103_1.lt g105_0)) (Or.inl ⟨rfl, congrArg (own_roleV rA rB rC rD rE) hc303_158, (own_word_eq i6 i7).mpr ⟨hc256_118, hc263_119, Or.inr hc276_156, Or.inl hc282_157⟩⟩)
                  · skip
                    refine own_to (V := T105.setTop (mkF m 318 #[.val (.int qa), .val (.int qb), .val (.int ql), .val (.int qr), .val (.int qs), .val (.int qm), .val (.int v6), .val (.int v7), .val (.int v8), .val (.int v9), .val (.int v10), .val (.int v11), .val (.int v12), .val (.int v13), .val (.int v14), .val (.int v15), .val (.int v16), .val (.ref oa101), .val (.ref oa102), .val (.ref oa103), .val (.ref oa105), .val (.int x107), .val (.int (1 : Int32)), .val (.int (0 : Int32))] [])) ?_ fun t k => (by
                      refine XS.icmpYes X105.here hx rfl (pc0 := 303) (pc' := 315) rfl (hb hby at_303) rfl (feq (hc303_158 : ¬ (v15 = v16))).2 (by decide) (by decide) ?_
                      refine XS.iconst X105.here hx rfl (hb hby at_315) ?_
                      refine XS.istore X105.here hx rfl (hb hby at_316) rfl (l' := #[.val (.int qa), .val (.int qb), .val (.int ql), .val (.int qr), .val (.int qs), .val (.int qm), .val (.int v6), .val (.int v7), .val (.int v8), .val (.int v9), .val (.int v10), .val (.int v11), .val (.int v12), .val (.int v13), .val (.int v14), .val (.int v15), .val (.int v16), .val (.ref oa101), .val (.ref oa102), .val (.ref oa103), .val (.ref oa105), .val (.int x107), .val (.int (1 : Int32)), .val (.int (0 : Int32))]) rfl ?_
                      exact k)
                    have F164 : own_Str Z h105 oa101 ou101 (own_word v6 v9 v10 v11) := ((F104.keep K103 List.not_mem_nil List.not_mem_nil).keep K105 List.not_mem_nil List.not_mem_nil)
                    have F165 : own_Str Z h105 oa102 ou102 (own_word v7 v12 v13 v14) := (F106.keep K105 List.not_mem_nil List.not_mem_nil)
                    have F166 : Exa Z h105 oa103 "com/example/eager_query/eagerquery/model/Element" := (g103_1.keep K105)
                    have F167 : Fld Z h105 oa103 "com/example/eager_query/eagerquery/model/Element" "role" "Lcom/example/eager_query/eagerquery/model/Role;" (own_roleV rA rB rC rD rE v15) := (g103_2.keep K105 List.not_mem_nil)
                    have F168 : Fld Z h105 oa103 "com/example/eager_query/eagerquery/model/Element" "word" "Ljava/lang/String;" (.ref oa101) := (g103_3.keep K105 List.not_mem_nil)
                    exact own_sglaw2 l Z a0 hw hst qa qb ql qr qs qm rA rB rC rD rE h0 n0 v6 v7 v8 v9 v10 v11 v12 v13 v14 v15 v16 x107 (1 : Int32) (0 : Int32) oa101 oa102 ou101 ou102 oa103 oa105 hx hby hret hlk hml hnm hS105 hZ105 hown105 X105 e105 hk105 N105 Xo105 KK105 F164 F165 F166 g105_1 F167 F168 g105_2 g105_3 (Nat.ne_of_lt (Nat.lt_of_lt_of_le g103_1.lt g105_0)) (Or.inr ⟨rfl, fun q => hc303_158 (own_roleV_inj hR i15 i16 q.1)⟩)
                · skip
                  refine own_to (V := T105.setTop (mkF m 289 #[.val (.int qa), .val (.int qb), .val (.int ql), .val (.int qr), .val (.int qs), .val (.int qm), .val (.int v6), .val (.int v7), .val (.int v8), .val (.int v9), .val (.int v10), .val (.int v11), .val (.int v12), .val (.int v13), .val (.int v14), .val (.int v15), .val (.int v16), .val (.ref oa101), .val (.ref oa102), .val (.ref oa103), .val (.ref oa105), .val (.int x107), .unset, .unset] [(.int v14), (.int v11)])) ?_ fun t k => (by
                    refine XS.icmpNo X105.here hx rfl (hb hby at_282) rfl (flt (hc282_157 : ¬ (v6 < (3 : Int32)))).1 ?_
                    refine XS.iload X105.here hx rfl (hb hby at_285) rfl ?_
                    refine XS.iload X105.here hx rfl (hb hby at_287) rfl ?_
                    exact k)
                  by_cases hc289_169 : v11 = v14
                  · skip
                    refine own_to (V := T105.setTop (mkF m 303 #[.val (.int qa), .val (.int qb), .val (.int ql), .val (.int qr), .val (.int qs), .val (.int qm), .val (.int v6), .val (.int v7), .val (.int v8), .val (.int v9), .val (.int v10), .val (.int v11), .val (.int v12), .val (.int v13), .val (.int v14), .val (.int v15), .val (.int v16), .val (.ref oa101), .val (.ref oa102), .val (.ref oa103), .val (.ref oa105), .val (.int x107), .val (.int (1 : Int32)), .unset] [(.int v16), (.int v15)])) ?_ fun t k => (by
                      refine XS.icmpNo X105.here hx rfl (hb hby at_289) rfl (teq (hc289_169 : v11 = v14)).2 ?_
                      refine XS.iconst X105.here hx rfl (hb hby at_292) ?_
                      refine XS.goto X105.here hx rfl (pc0 := 293) (pc' := 297) rfl (hb hby at_293) (by decide) (by decide) ?_
                      refine XS.istore X105.here hx rfl (hb hby at_297) rfl (l' := #[.val (.int qa), .val (.int qb), .val (.int ql), .val (.int qr), .val (.int qs), .val (.int qm), .val (.int v6), .val (.int v7), .val (.int v8), .val (.int v9), .val (.int v10), .val (.int v11), .val (.int v12), .val (.int v13), .val (.int v14), .val (.int v15), .val (.int v16), .val (.ref oa101), .val (.ref oa102), .val (.ref oa103), .val (.ref oa105), .val (.int x107), .val (.int (1 : Int32)), .unset]) rfl ?_
                      refine XS.iload X105.here hx rfl (hb hby at_299) rfl ?_
                      refine XS.iload X105.here hx rfl (hb hby at_301) rfl ?_
                      exact k)
                    by_cases hc303_170 : v15 = v16
                    · skip
                      refine own_to (V := T105.setTop (mkF m 318 #[.val (.int qa), .val (.int qb), .val (.int ql), .val (.int qr), .val (.int qs), .val (.int qm), .val (.int v6), .val (.int v7), .val (.int v8), .val (.int v9), .val (.int v10), .val (.int v11), .val (.int v12), .val (.int v13), .val (.int v14), .val (.int v15), .val (.int v16), .val (.ref oa101), .val (.ref oa102), .val (.ref oa103), .val (.ref oa105), .val (.int x107), .val (.int (1 : Int32)), .val (.int (1 : Int32))] [])) ?_ fun t k => (by
                        refine XS.icmpNo X105.here hx rfl (hb hby at_303) rfl (teq (hc303_170 : v15 = v16)).2 ?_
                        refine XS.iload X105.here hx rfl (hb hby at_306) rfl ?_
                        refine XS.ifNo X105.here hx rfl (hb hby at_308) rfl ((if0 _ _).trans (feq ((by decide) : ¬ ((1 : Int32) = (0 : Int32)))).1) ?_
                        refine XS.iconst X105.here hx rfl (hb hby at_311) ?_
                        refine XS.goto X105.here hx rfl (pc0 := 312) (pc' := 316) rfl (hb hby at_312) (by decide) (by decide) ?_
                        refine XS.istore X105.here hx rfl (hb hby at_316) rfl (l' := #[.val (.int qa), .val (.int qb), .val (.int ql), .val (.int qr), .val (.int qs), .val (.int qm), .val (.int v6), .val (.int v7), .val (.int v8), .val (.int v9), .val (.int v10), .val (.int v11), .val (.int v12), .val (.int v13), .val (.int v14), .val (.int v15), .val (.int v16), .val (.ref oa101), .val (.ref oa102), .val (.ref oa103), .val (.ref oa105), .val (.int x107), .val (.int (1 : Int32)), .val (.int (1 : Int32))]) rfl ?_
                        exact k)
                      have F171 : own_Str Z h105 oa101 ou101 (own_word v6 v9 v10 v11) := ((F104.keep K103 List.not_mem_nil List.not_mem_nil).keep K105 List.not_mem_nil List.not_mem_nil)
                      have F172 : own_Str Z h105 oa102 ou102 (own_word v7 v12 v13 v14) := (F106.keep K105 List.not_mem_nil List.not_mem_nil)
                      have F173 : Exa Z h105 oa103 "com/example/eager_query/eagerquery/model/Element" := (g103_1.keep K105)
                      have F174 : Fld Z h105 oa103 "com/example/eager_query/eagerquery/model/Element" "role" "Lcom/example/eager_query/eagerquery/model/Role;" (own_roleV rA rB rC rD rE v15) := (g103_2.keep K105 List.not_mem_nil)
                      have F175 : Fld Z h105 oa103 "com/example/eager_query/eagerquery/model/Element" "word" "Ljava/lang/String;" (.ref oa101) := (g103_3.keep K105 List.not_mem_nil)
                      exact own_sglaw2 l Z a0 hw hst qa qb ql qr qs qm rA rB rC rD rE h0 n0 v6 v7 v8 v9 v10 v11 v12 v13 v14 v15 v16 x107 (1 : Int32) (1 : Int32) oa101 oa102 ou101 ou102 oa103 oa105 hx hby hret hlk hml hnm hS105 hZ105 hown105 X105 e105 hk105 N105 Xo105 KK105 F171 F172 F173 g105_1 F174 F175 g105_2 g105_3 (Nat.ne_of_lt (Nat.lt_of_lt_of_le g103_1.lt g105_0)) (Or.inl ⟨rfl, congrArg (own_roleV rA rB rC rD rE) hc303_170, (own_word_eq i6 i7).mpr ⟨hc256_118, hc263_119, Or.inr hc276_156, Or.inr hc289_169⟩⟩)
                    · skip
                      refine own_to (V := T105.setTop (mkF m 318 #[.val (.int qa), .val (.int qb), .val (.int ql), .val (.int qr), .val (.int qs), .val (.int qm), .val (.int v6), .val (.int v7), .val (.int v8), .val (.int v9), .val (.int v10), .val (.int v11), .val (.int v12), .val (.int v13), .val (.int v14), .val (.int v15), .val (.int v16), .val (.ref oa101), .val (.ref oa102), .val (.ref oa103), .val (.ref oa105), .val (.int x107), .val (.int (1 : Int32)), .val (.int (0 : Int32))] [])) ?_ fun t k => (by
                        refine XS.icmpYes X105.here hx rfl (pc0 := 303) (pc' := 315) rfl (hb hby at_303) rfl (feq (hc303_170 : ¬ (v15 = v16))).2 (by decide) (by decide) ?_
                        refine XS.iconst X105.here hx rfl (hb hby at_315) ?_
                        refine XS.istore X105.here hx rfl (hb hby at_316) rfl (l' := #[.val (.int qa), .val (.int qb), .val (.int ql), .val (.int qr), .val (.int qs), .val (.int qm), .val (.int v6), .val (.int v7), .val (.int v8), .val (.int v9), .val (.int v10), .val (.int v11), .val (.int v12), .val (.int v13), .val (.int v14), .val (.int v15), .val (.int v16), .val (.ref oa101), .val (.ref oa102), .val (.ref oa103), .val (.ref oa105), .val (.int x107), .val (.int (1 : Int32)), .val (.int (0 : Int32))]) rfl ?_
                        exact k)
                      have F176 : own_Str Z h105 oa101 ou101 (own_word v6 v9 v10 v11) := ((F104.keep K103 List.not_mem_nil List.not_mem_nil).keep K105 List.not_mem_nil List.not_mem_nil)
                      have F177 : own_Str Z h105 oa102 ou102 (own_word v7 v12 v13 v14) := (F106.keep K105 List.not_mem_nil List.not_mem_nil)
                      have F178 : Exa Z h105 oa103 "com/example/eager_query/eagerquery/model/Element" := (g103_1.keep K105)
                      have F179 : Fld Z h105 oa103 "com/example/eager_query/eagerquery/model/Element" "role" "Lcom/example/eager_query/eagerquery/model/Role;" (own_roleV rA rB rC rD rE v15) := (g103_2.keep K105 List.not_mem_nil)
                      have F180 : Fld Z h105 oa103 "com/example/eager_query/eagerquery/model/Element" "word" "Ljava/lang/String;" (.ref oa101) := (g103_3.keep K105 List.not_mem_nil)
                      exact own_sglaw2 l Z a0 hw hst qa qb ql qr qs qm rA rB rC rD rE h0 n0 v6 v7 v8 v9 v10 v11 v12 v13 v14 v15 v16 x107 (1 : Int32) (0 : Int32) oa101 oa102 ou101 ou102 oa103 oa105 hx hby hret hlk hml hnm hS105 hZ105 hown105 X105 e105 hk105 N105 Xo105 KK105 F176 F177 F178 g105_1 F179 F180 g105_2 g105_3 (Nat.ne_of_lt (Nat.lt_of_lt_of_le g103_1.lt g105_0)) (Or.inr ⟨rfl, fun q => hc303_170 (own_roleV_inj hR i15 i16 q.1)⟩)
                  · skip
                    refine own_to (V := T105.setTop (mkF m 303 #[.val (.int qa), .val (.int qb), .val (.int ql), .val (.int qr), .val (.int qs), .val (.int qm), .val (.int v6), .val (.int v7), .val (.int v8), .val (.int v9), .val (.int v10), .val (.int v11), .val (.int v12), .val (.int v13), .val (.int v14), .val (.int v15), .val (.int v16), .val (.ref oa101), .val (.ref oa102), .val (.ref oa103), .val (.ref oa105), .val (.int x107), .val (.int (0 : Int32)), .unset] [(.int v16), (.int v15)])) ?_ fun t k => (by
                      refine XS.icmpYes X105.here hx rfl (pc0 := 289) (pc' := 296) rfl (hb hby at_289) rfl (feq (hc289_169 : ¬ (v11 = v14))).2 (by decide) (by decide) ?_
                      refine XS.iconst X105.here hx rfl (hb hby at_296) ?_
                      refine XS.istore X105.here hx rfl (hb hby at_297) rfl (l' := #[.val (.int qa), .val (.int qb), .val (.int ql), .val (.int qr), .val (.int qs), .val (.int qm), .val (.int v6), .val (.int v7), .val (.int v8), .val (.int v9), .val (.int v10), .val (.int v11), .val (.int v12), .val (.int v13), .val (.int v14), .val (.int v15), .val (.int v16), .val (.ref oa101), .val (.ref oa102), .val (.ref oa103), .val (.ref oa105), .val (.int x107), .val (.int (0 : Int32)), .unset]) rfl ?_
                      refine XS.iload X105.here hx rfl (hb hby at_299) rfl ?_
                      refine XS.iload X105.here hx rfl (hb hby at_301) rfl ?_
                      exact k)
                    by_cases hc303_181 : v15 = v16
                    · skip
                      refine own_to (V := T105.setTop (mkF m 318 #[.val (.int qa), .val (.int qb), .val (.int ql), .val (.int qr), .val (.int qs), .val (.int qm), .val (.int v6), .val (.int v7), .val (.int v8), .val (.int v9), .val (.int v10), .val (.int v11), .val (.int v12), .val (.int v13), .val (.int v14), .val (.int v15), .val (.int v16), .val (.ref oa101), .val (.ref oa102), .val (.ref oa103), .val (.ref oa105), .val (.int x107), .val (.int (0 : Int32)), .val (.int (0 : Int32))] [])) ?_ fun t k => (by
                        refine XS.icmpNo X105.here hx rfl (hb hby at_303) rfl (teq (hc303_181 : v15 = v16)).2 ?_
                        refine XS.iload X105.here hx rfl (hb hby at_306) rfl ?_
                        refine XS.ifYes X105.here hx rfl (pc0 := 308) (pc' := 315) rfl (hb hby at_308) rfl ((if0 _ _).trans (teq ((by decide) : (0 : Int32) = (0 : Int32))).1) (by decide) (by decide) ?_
                        refine XS.iconst X105.here hx rfl (hb hby at_315) ?_
                        refine XS.istore X105.here hx rfl (hb hby at_316) rfl (l' := #[.val (.int qa), .val (.int qb), .val (.int ql), .val (.int qr), .val (.int qs), .val (.int qm), .val (.int v6), .val (.int v7), .val (.int v8), .val (.int v9), .val (.int v10), .val (.int v11), .val (.int v12), .val (.int v13), .val (.int v14), .val (.int v15), .val (.int v16), .val (.ref oa101), .val (.ref oa102), .val (.ref oa103), .val (.ref oa105), .val (.int x107), .val (.int (0 : Int32)), .val (.int (0 : Int32))]) rfl ?_
                        exact k)
                      have F182 : own_Str Z h105 oa101 ou101 (own_word v6 v9 v10 v11) := ((F104.keep K103 List.not_mem_nil List.not_mem_nil).keep K105 List.not_mem_nil List.not_mem_nil)
                      have F183 : own_Str Z h105 oa102 ou102 (own_word v7 v12 v13 v14) := (F106.keep K105 List.not_mem_nil List.not_mem_nil)
                      have F184 : Exa Z h105 oa103 "com/example/eager_query/eagerquery/model/Element" := (g103_1.keep K105)
                      have F185 : Fld Z h105 oa103 "com/example/eager_query/eagerquery/model/Element" "role" "Lcom/example/eager_query/eagerquery/model/Role;" (own_roleV rA rB rC rD rE v15) := (g103_2.keep K105 List.not_mem_nil)
                      have F186 : Fld Z h105 oa103 "com/example/eager_query/eagerquery/model/Element" "word" "Ljava/lang/String;" (.ref oa101) := (g103_3.keep K105 List.not_mem_nil)
                      exact own_sglaw2 l Z a0 hw hst qa qb ql qr qs qm rA rB rC rD rE h0 n0 v6 v7 v8 v9 v10 v11 v12 v13 v14 v15 v16 x107 (0 : Int32) (0 : Int32) oa101 oa102 ou101 ou102 oa103 oa105 hx hby hret hlk hml hnm hS105 hZ105 hown105 X105 e105 hk105 N105 Xo105 KK105 F182 F183 F184 g105_1 F185 F186 g105_2 g105_3 (Nat.ne_of_lt (Nat.lt_of_lt_of_le g103_1.lt g105_0)) (Or.inr ⟨rfl, fun q => (fun w => w.2.2.2.elim hc282_157 hc289_169) ((own_word_eq i6 i7).mp q.2)⟩)
                    · skip
                      refine own_to (V := T105.setTop (mkF m 318 #[.val (.int qa), .val (.int qb), .val (.int ql), .val (.int qr), .val (.int qs), .val (.int qm), .val (.int v6), .val (.int v7), .val (.int v8), .val (.int v9), .val (.int v10), .val (.int v11), .val (.int v12), .val (.int v13), .val (.int v14), .val (.int v15), .val (.int v16), .val (.ref oa101), .val (.ref oa102), .val (.ref oa103), .val (.ref oa105), .val (.int x107), .val (.int (0 : Int32)), .val (.int (0 : Int32))] [])) ?_ fun t k => (by
                        refine XS.icmpYes X105.here hx rfl (pc0 := 303) (pc' := 315) rfl (hb hby at_303) rfl (feq (hc303_181 : ¬ (v15 = v16))).2 (by decide) (by decide) ?_
                        refine XS.iconst X105.here hx rfl (hb hby at_315) ?_
                        refine XS.istore X105.here hx rfl (hb hby at_316) rfl (l' := #[.val (.int qa), .val (.int qb), .val (.int ql), .val (.int qr), .val (.int qs), .val (.int qm), .val (.int v6), .val (.int v7), .val (.int v8), .val (.int v9), .val (.int v10), .val (.int v11), .val (.int v12), .val (.int v13), .val (.int v14), .val (.int v15), .val (.int v16), .val (.ref oa101), .val (.ref oa102), .val (.ref oa103), .val (.ref oa105), .val (.int x107), .val (.int (0 : Int32)), .val (.int (0 : Int32))]) rfl ?_
                        exact k)
                      have F187 : own_Str Z h105 oa101 ou101 (own_word v6 v9 v10 v11) := ((F104.keep K103 List.not_mem_nil List.not_mem_nil).keep K105 List.not_mem_nil List.not_mem_nil)
                      have F188 : own_Str Z h105 oa102 ou102 (own_word v7 v12 v13 v14) := (F106.keep K105 List.not_mem_nil List.not_mem_nil)
                      have F189 : Exa Z h105 oa103 "com/example/eager_query/eagerquery/model/Element" := (g103_1.keep K105)
                      have F190 : Fld Z h105 oa103 "com/example/eager_query/eagerquery/model/Element" "role" "Lcom/example/eager_query/eagerquery/model/Role;" (own_roleV rA rB rC rD rE v15) := (g103_2.keep K105 List.not_mem_nil)
                      have F191 : Fld Z h105 oa103 "com/example/eager_query/eagerquery/model/Element" "word" "Ljava/lang/String;" (.ref oa101) := (g103_3.keep K105 List.not_mem_nil)
                      exact own_sglaw2 l Z a0 hw hst qa qb ql qr qs qm rA rB rC rD rE h0 n0 v6 v7 v8 v9 v10 v11 v12 v13 v14 v15 v16 x107 (0 : Int32) (0 : Int32) oa101 oa102 ou101 ou102 oa103 oa105 hx hby hret hlk hml hnm hS105 hZ105 hown105 X105 e105 hk105 N105 Xo105 KK105 F187 F188 F189 g105_1 F190 F191 g105_2 g105_3 (Nat.ne_of_lt (Nat.lt_of_lt_of_le g103_1.lt g105_0)) (Or.inr ⟨rfl, fun q => hc303_181 (own_roleV_inj hR i15 i16 q.1)⟩)
              · skip
                refine own_to (V := T105.setTop (mkF m 303 #[.val (.int qa), .val (.int qb), .val (.int ql), .val (.int qr), .val (.int qs), .val (.int qm), .val (.int v6), .val (.int v7), .val (.int v8), .val (.int v9), .val (.int v10), .val (.int v11), .val (.int v12), .val (.int v13), .val (.int v14), .val (.int v15), .val (.int v16), .val (.ref oa101), .val (.ref oa102), .val (.ref oa103), .val (.ref oa105), .val (.int x107), .val (.int (0 : Int32)), .unset] [(.int v16), (.int v15)])) ?_ fun t k => (by
                  refine XS.icmpYes X105.here hx rfl (pc0 := 276) (pc' := 296) rfl (hb hby at_276) rfl (feq (hc276_156 : ¬ (v10 = v13))).2 (by decide) (by decide) ?_
                  refine XS.iconst X105.here hx rfl (hb hby at_296) ?_
                  refine XS.istore X105.here hx rfl (hb hby at_297) rfl (l' := #[.val (.int qa), .val (.int qb), .val (.int ql), .val (.int qr), .val (.int qs), .val (.int qm), .val (.int v6), .val (.int v7), .val (.int v8), .val (.int v9), .val (.int v10), .val (.int v11), .val (.int v12), .val (.int v13), .val (.int v14), .val (.int v15), .val (.int v16), .val (.ref oa101), .val (.ref oa102), .val (.ref oa103), .val (.ref oa105), .val (.int x107), .val (.int (0 : Int32)), .unset]) rfl ?_
                  refine XS.iload X105.here hx rfl (hb hby at_299) rfl ?_
                  refine XS.iload X105.here hx rfl (hb hby at_301) rfl ?_
                  exact k)
                by_cases hc303_192 : v15 = v16
                · skip
                  refine own_to (V := T105.setTop (mkF m 318 #[.val (.int qa), .val (.int qb), .val (.int ql), .val (.int qr), .val (.int qs), .val (.int qm), .val (.int v6), .val (.int v7), .val (.int v8), .val (.int v9), .val (.int v10), .val (.int v11), .val (.int v12), .val (.int v13), .val (.int v14), .val (.int v15), .val (.int v16), .val (.ref oa101), .val (.ref oa102), .val (.ref oa103), .val (.ref oa105), .val (.int x107), .val (.int (0 : Int32)), .val (.int (0 : Int32))] [])) ?_ fun t k => (by
                    refine XS.icmpNo X105.here hx rfl (hb hby at_303) rfl (teq (hc303_192 : v15 = v16)).2 ?_
                    refine XS.iload X105.here hx rfl (hb hby at_306) rfl ?_
                    refine XS.ifYes X105.here hx rfl (pc0 := 308) (pc' := 315) rfl (hb hby at_308) rfl ((if0 _ _).trans (teq ((by decide) : (0 : Int32) = (0 : Int32))).1) (by decide) (by decide) ?_
                    refine XS.iconst X105.here hx rfl (hb hby at_315) ?_
                    refine XS.istore X105.here hx rfl (hb hby at_316) rfl (l' := #[.val (.int qa), .val (.int qb), .val (.int ql), .val (.int qr), .val (.int qs), .val (.int qm), .val (.int v6), .val (.int v7), .val (.int v8), .val (.int v9), .val (.int v10), .val (.int v11), .val (.int v12), .val (.int v13), .val (.int v14), .val (.int v15), .val (.int v16), .val (.ref oa101), .val (.ref oa102), .val (.ref oa103), .val (.ref oa105), .val (.int x107), .val (.int (0 : Int32)), .val (.int (0 : Int32))]) rfl ?_
                    exact k)
                  have F193 : own_Str Z h105 oa101 ou101 (own_word v6 v9 v10 v11) := ((F104.keep K103 List.not_mem_nil List.not_mem_nil).keep K105 List.not_mem_nil List.not_mem_nil)
                  have F194 : own_Str Z h105 oa102 ou102 (own_word v7 v12 v13 v14) := (F106.keep K105 List.not_mem_nil List.not_mem_nil)
                  have F195 : Exa Z h105 oa103 "com/example/eager_query/eagerquery/model/Element" := (g103_1.keep K105)
                  have F196 : Fld Z h105 oa103 "com/example/eager_query/eagerquery/model/Element" "role" "Lcom/example/eager_query/eagerquery/model/Role;" (own_roleV rA rB rC rD rE v15) := (g103_2.keep K105 List.not_mem_nil)
                  have F197 : Fld Z h105 oa103 "com/example/eager_query/eagerquery/model/Element" "word" "Ljava/lang/String;" (.ref oa101) := (g103_3.keep K105 List.not_mem_nil)
                  exact own_sglaw2 l Z a0 hw hst qa qb ql qr qs qm rA rB rC rD rE h0 n0 v6 v7 v8 v9 v10 v11 v12 v13 v14 v15 v16 x107 (0 : Int32) (0 : Int32) oa101 oa102 ou101 ou102 oa103 oa105 hx hby hret hlk hml hnm hS105 hZ105 hown105 X105 e105 hk105 N105 Xo105 KK105 F193 F194 F195 g105_1 F196 F197 g105_2 g105_3 (Nat.ne_of_lt (Nat.lt_of_lt_of_le g103_1.lt g105_0)) (Or.inr ⟨rfl, fun q => (fun w => w.2.2.1.elim hc269_120 hc276_156) ((own_word_eq i6 i7).mp q.2)⟩)
                · skip
                  refine own_to (V := T105.setTop (mkF m 318 #[.val (.int qa), .val (.int qb), .val (.int ql), .val (.int qr), .val (.int qs), .val (.int qm), .val (.int v6), .val (.int v7), .val (.int v8), .val (.int v9), .val (.int v10), .val (.int v11), .val (.int v12), .val (.int v13), .val (.int v14), .val (.int v15), .val (.int v16), .val (.ref oa101), .val (.ref oa102), .val (.ref oa103), .val (.ref oa105), .val (.int x107), .val (.int (0 : Int32)), .val (.int (0 : Int32))] [])) ?_ fun t k => (by
                    refine XS.icmpYes X105.here hx rfl (pc0 := 303) (pc' := 315) rfl (hb hby at_303) rfl (feq (hc303_192 : ¬ (v15 = v16))).2 (by decide) (by decide) ?_
                    refine XS.iconst X105.here hx rfl (hb hby at_315) ?_
                    refine XS.istore X105.here hx rfl (hb hby at_316) rfl (l' := #[.val (.int qa), .val (.int qb), .val (.int ql), .val (.int qr), .val (.int qs), .val (.int qm), .val (.int v6), .val (.int v7), .val (.int v8), .val (.int v9), .val (.int v10), .val (.int v11), .val (.int v12), .val (.int v13), .val (.int v14), .val (.int v15), .val (.int v16), .val (.ref oa101), .val (.ref oa102), .val (.ref oa103), .val (.ref oa105), .val (.int x107), .val (.int (0 : Int32)), .val (.int (0 : Int32))]) rfl ?_
                    exact k)
                  have F198 : own_Str Z h105 oa101 ou101 (own_word v6 v9 v10 v11) := ((F104.keep K103 List.not_mem_nil List.not_mem_nil).keep K105 List.not_mem_nil List.not_mem_nil)
                  have F199 : own_Str Z h105 oa102 ou102 (own_word v7 v12 v13 v14) := (F106.keep K105 List.not_mem_nil List.not_mem_nil)
                  have F200 : Exa Z h105 oa103 "com/example/eager_query/eagerquery/model/Element" := (g103_1.keep K105)
                  have F201 : Fld Z h105 oa103 "com/example/eager_query/eagerquery/model/Element" "role" "Lcom/example/eager_query/eagerquery/model/Role;" (own_roleV rA rB rC rD rE v15) := (g103_2.keep K105 List.not_mem_nil)
                  have F202 : Fld Z h105 oa103 "com/example/eager_query/eagerquery/model/Element" "word" "Ljava/lang/String;" (.ref oa101) := (g103_3.keep K105 List.not_mem_nil)
                  exact own_sglaw2 l Z a0 hw hst qa qb ql qr qs qm rA rB rC rD rE h0 n0 v6 v7 v8 v9 v10 v11 v12 v13 v14 v15 v16 x107 (0 : Int32) (0 : Int32) oa101 oa102 ou101 ou102 oa103 oa105 hx hby hret hlk hml hnm hS105 hZ105 hown105 X105 e105 hk105 N105 Xo105 KK105 F198 F199 F200 g105_1 F201 F202 g105_2 g105_3 (Nat.ne_of_lt (Nat.lt_of_lt_of_le g103_1.lt g105_0)) (Or.inr ⟨rfl, fun q => hc303_192 (own_roleV_inj hR i15 i16 q.1)⟩)
          · skip
            refine own_to (V := T105.setTop (mkF m 303 #[.val (.int qa), .val (.int qb), .val (.int ql), .val (.int qr), .val (.int qs), .val (.int qm), .val (.int v6), .val (.int v7), .val (.int v8), .val (.int v9), .val (.int v10), .val (.int v11), .val (.int v12), .val (.int v13), .val (.int v14), .val (.int v15), .val (.int v16), .val (.ref oa101), .val (.ref oa102), .val (.ref oa103), .val (.ref oa105), .val (.int x107), .val (.int (0 : Int32)), .unset] [(.int v16), (.int v15)])) ?_ fun t k => (by
              refine XS.icmpYes X105.here hx rfl (pc0 := 263) (pc' := 296) rfl (hb hby at_263) rfl (feq (hc263_119 : ¬ (v9 = v12))).2 (by decide) (by decide) ?_
              refine XS.iconst X105.here hx rfl (hb hby at_296) ?_
              refine XS.istore X105.here hx rfl (hb hby at_297) rfl (l' := #[.val (.int qa), .val (.int qb), .val (.int ql), .val (.int qr), .val (.int qs), .val (.int qm), .val (.int v6), .val (.int v7), .val (.int v8), .val (.int v9), .val (.int v10), .val (.int v11), .val (.int v12), .val (.int v13), .val (.int v14), .val (.int v15), .val (.int v16), .val (.ref oa101), .val (.ref oa102), .val (.ref oa103), .val (.ref oa105), .val (.int x107), .val (.int (0 : Int32)), .unset]) rfl ?_
              refine XS.iload X105.here hx rfl (hb hby at_299) rfl ?_
              refine XS.iload X105.here hx rfl (hb hby at_301) rfl ?_
              exact k)
            by_cases hc303_203 : v15 = v16
            · skip
              refine own_to (V := T105.setTop (mkF m 318 #[.val (.int qa), .val (.int qb), .val (.int ql), .val (.int qr), .val (.int qs), .val (.int qm), .val (.int v6), .val (.int v7), .val (.int v8), .val (.int v9), .val (.int v10), .val (.int v11), .val (.int v12), .val (.int v13), .val (.int v14), .val (.int v15), .val (.int v16), .val (.ref oa101), .val (.ref oa102), .val (.ref oa103), .val (.ref oa105), .val (.int x107), .val (.int (0 : Int32)), .val (.int (0 : Int32))] [])) ?_ fun t k => (by
                refine XS.icmpNo X105.here hx rfl (hb hby at_303) rfl (teq (hc303_203 : v15 = v16)).2 ?_
                refine XS.iload X105.here hx rfl (hb hby at_306) rfl ?_
                refine XS.ifYes X105.here hx rfl (pc0 := 308) (pc' := 315) rfl (hb hby at_308) rfl ((if0 _ _).trans (teq ((by decide) : (0 : Int32) = (0 : Int32))).1) (by decide) (by decide) ?_
                refine XS.iconst X105.here hx rfl (hb hby at_315) ?_
                refine XS.istore X105.here hx rfl (hb hby at_316) rfl (l' := #[.val (.int qa), .val (.int qb), .val (.int ql), .val (.int qr), .val (.int qs), .val (.int qm), .val (.int v6), .val (.int v7), .val (.int v8), .val (.int v9), .val (.int v10), .val (.int v11), .val (.int v12), .val (.int v13), .val (.int v14), .val (.int v15), .val (.int v16), .val (.ref oa101), .val (.ref oa102), .val (.ref oa103), .val (.ref oa105), .val (.int x107), .val (.int (0 : Int32)), .val (.int (0 : Int32))]) rfl ?_
                exact k)
              have F204 : own_Str Z h105 oa101 ou101 (own_word v6 v9 v10 v11) := ((F104.keep K103 List.not_mem_nil List.not_mem_nil).keep K105 List.not_mem_nil List.not_mem_nil)
              have F205 : own_Str Z h105 oa102 ou102 (own_word v7 v12 v13 v14) := (F106.keep K105 List.not_mem_nil List.not_mem_nil)
              have F206 : Exa Z h105 oa103 "com/example/eager_query/eagerquery/model/Element" := (g103_1.keep K105)
              have F207 : Fld Z h105 oa103 "com/example/eager_query/eagerquery/model/Element" "role" "Lcom/example/eager_query/eagerquery/model/Role;" (own_roleV rA rB rC rD rE v15) := (g103_2.keep K105 List.not_mem_nil)
              have F208 : Fld Z h105 oa103 "com/example/eager_query/eagerquery/model/Element" "word" "Ljava/lang/String;" (.ref oa101) := (g103_3.keep K105 List.not_mem_nil)
              exact own_sglaw2 l Z a0 hw hst qa qb ql qr qs qm rA rB rC rD rE h0 n0 v6 v7 v8 v9 v10 v11 v12 v13 v14 v15 v16 x107 (0 : Int32) (0 : Int32) oa101 oa102 ou101 ou102 oa103 oa105 hx hby hret hlk hml hnm hS105 hZ105 hown105 X105 e105 hk105 N105 Xo105 KK105 F204 F205 F206 g105_1 F207 F208 g105_2 g105_3 (Nat.ne_of_lt (Nat.lt_of_lt_of_le g103_1.lt g105_0)) (Or.inr ⟨rfl, fun q => (fun w => hc263_119 w.2.1) ((own_word_eq i6 i7).mp q.2)⟩)
            · skip
              refine own_to (V := T105.setTop (mkF m 318 #[.val (.int qa), .val (.int qb), .val (.int ql), .val (.int qr), .val (.int qs), .val (.int qm), .val (.int v6), .val (.int v7), .val (.int v8), .val (.int v9), .val (.int v10), .val (.int v11), .val (.int v12), .val (.int v13), .val (.int v14), .val (.int v15), .val (.int v16), .val (.ref oa101), .val (.ref oa102), .val (.ref oa103), .val (.ref oa105), .val (.int x107), .val (.int (0 : Int32)), .val (.int (0 : Int32))] [])) ?_ fun t k => (by
                refine XS.icmpYes X105.here hx rfl (pc0 := 303) (pc' := 315) rfl (hb hby at_303) rfl (feq (hc303_203 : ¬ (v15 = v16))).2 (by decide) (by decide) ?_
                refine XS.iconst X105.here hx rfl (hb hby at_315) ?_
                refine XS.istore X105.here hx rfl (hb hby at_316) rfl (l' := #[.val (.int qa), .val (.int qb), .val (.int ql), .val (.int qr), .val (.int qs), .val (.int qm), .val (.int v6), .val (.int v7), .val (.int v8), .val (.int v9), .val (.int v10), .val (.int v11), .val (.int v12), .val (.int v13), .val (.int v14), .val (.int v15), .val (.int v16), .val (.ref oa101), .val (.ref oa102), .val (.ref oa103), .val (.ref oa105), .val (.int x107), .val (.int (0 : Int32)), .val (.int (0 : Int32))]) rfl ?_
                exact k)
              have F209 : own_Str Z h105 oa101 ou101 (own_word v6 v9 v10 v11) := ((F104.keep K103 List.not_mem_nil List.not_mem_nil).keep K105 List.not_mem_nil List.not_mem_nil)
              have F210 : own_Str Z h105 oa102 ou102 (own_word v7 v12 v13 v14) := (F106.keep K105 List.not_mem_nil List.not_mem_nil)
              have F211 : Exa Z h105 oa103 "com/example/eager_query/eagerquery/model/Element" := (g103_1.keep K105)
              have F212 : Fld Z h105 oa103 "com/example/eager_query/eagerquery/model/Element" "role" "Lcom/example/eager_query/eagerquery/model/Role;" (own_roleV rA rB rC rD rE v15) := (g103_2.keep K105 List.not_mem_nil)
              have F213 : Fld Z h105 oa103 "com/example/eager_query/eagerquery/model/Element" "word" "Ljava/lang/String;" (.ref oa101) := (g103_3.keep K105 List.not_mem_nil)
              exact own_sglaw2 l Z a0 hw hst qa qb ql qr qs qm rA rB rC rD rE h0 n0 v6 v7 v8 v9 v10 v11 v12 v13 v14 v15 v16 x107 (0 : Int32) (0 : Int32) oa101 oa102 ou101 ou102 oa103 oa105 hx hby hret hlk hml hnm hS105 hZ105 hown105 X105 e105 hk105 N105 Xo105 KK105 F209 F210 F211 g105_1 F212 F213 g105_2 g105_3 (Nat.ne_of_lt (Nat.lt_of_lt_of_le g103_1.lt g105_0)) (Or.inr ⟨rfl, fun q => hc303_203 (own_roleV_inj hR i15 i16 q.1)⟩)
        · skip
          refine own_to (V := T105.setTop (mkF m 303 #[.val (.int qa), .val (.int qb), .val (.int ql), .val (.int qr), .val (.int qs), .val (.int qm), .val (.int v6), .val (.int v7), .val (.int v8), .val (.int v9), .val (.int v10), .val (.int v11), .val (.int v12), .val (.int v13), .val (.int v14), .val (.int v15), .val (.int v16), .val (.ref oa101), .val (.ref oa102), .val (.ref oa103), .val (.ref oa105), .val (.int x107), .val (.int (0 : Int32)), .unset] [(.int v16), (.int v15)])) ?_ fun t k => (by
            refine XS.icmpYes X105.here hx rfl (pc0 := 256) (pc' := 296) rfl (hb hby at_256) rfl (feq (hc256_118 : ¬ (v6 = v7))).2 (by decide) (by decide) ?_
            refine XS.iconst X105.here hx rfl (hb hby at_296) ?_
            refine XS.istore X105.here hx rfl (hb hby at_297) rfl (l' := #[.val (.int qa), .val (.int qb), .val (.int ql), .val (.int qr), .val (.int qs), .val (.int qm), .val (.int v6), .val (.int v7), .val (.int v8), .val (.int v9), .val (.int v10), .val (.int v11), .val (.int v12), .val (.int v13), .val (.int v14), .val (.int v15), .val (.int v16), .val (.ref oa101), .val (.ref oa102), .val (.ref oa103), .val (.ref oa105), .val (.int x107), .val (.int (0 : Int32)), .unset]) rfl ?_
            refine XS.iload X105.here hx rfl (hb hby at_299) rfl ?_
            refine XS.iload X105.here hx rfl (hb hby at_301) rfl ?_
            exact k)
          by_cases hc303_214 : v15 = v16
          · skip
            refine own_to (V := T105.setTop (mkF m 318 #[.val (.int qa), .val (.int qb), .val (.int ql), .val (.int qr), .val (.int qs), .val (.int qm), .val (.int v6), .val (.int v7), .val (.int v8), .val (.int v9), .val (.int v10), .val (.int v11), .val (.int v12), .val (.int v13), .val (.int v14), .val (.int v15), .val (.int v16), .val (.ref oa101), .val (.ref oa102), .val (.ref oa103), .val (.ref oa105), .val (.int x107), .val (.int (0 : Int32)), .val (.int (0 : Int32))] [])) ?_ fun t k => (by
              refine XS.icmpNo X105.here hx rfl (hb hby at_303) rfl (teq (hc303_214 : v15 = v16)).2 ?_
              refine XS.iload X105.here hx rfl (hb hby at_306) rfl ?_
              refine XS.ifYes X105.here hx rfl (pc0 := 308) (pc' := 315) rfl (hb hby at_308) rfl ((if0 _ _).trans (teq ((by decide) : (0 : Int32) = (0 : Int32))).1) (by decide) (by decide) ?_
              refine XS.iconst X105.here hx rfl (hb hby at_315) ?_
              refine XS.istore X105.here hx rfl (hb hby at_316) rfl (l' := #[.val (.int qa), .val (.int qb), .val (.int ql), .val (.int qr), .val (.int qs), .val (.int qm), .val (.int v6), .val (.int v7), .val (.int v8), .val (.int v9), .val (.int v10), .val (.int v11), .val (.int v12), .val (.int v13), .val (.int v14), .val (.int v15), .val (.int v16), .val (.ref oa101), .val (.ref oa102), .val (.ref oa103), .val (.ref oa105), .val (.int x107), .val (.int (0 : Int32)), .val (.int (0 : Int32))]) rfl ?_
              exact k)
            have F215 : own_Str Z h105 oa101 ou101 (own_word v6 v9 v10 v11) := ((F104.keep K103 List.not_mem_nil List.not_mem_nil).keep K105 List.not_mem_nil List.not_mem_nil)
            have F216 : own_Str Z h105 oa102 ou102 (own_word v7 v12 v13 v14) := (F106.keep K105 List.not_mem_nil List.not_mem_nil)
            have F217 : Exa Z h105 oa103 "com/example/eager_query/eagerquery/model/Element" := (g103_1.keep K105)
            have F218 : Fld Z h105 oa103 "com/example/eager_query/eagerquery/model/Element" "role" "Lcom/example/eager_query/eagerquery/model/Role;" (own_roleV rA rB rC rD rE v15) := (g103_2.keep K105 List.not_mem_nil)
            have F219 : Fld Z h105 oa103 "com/example/eager_query/eagerquery/model/Element" "word" "Ljava/lang/String;" (.ref oa101) := (g103_3.keep K105 List.not_mem_nil)
            exact own_sglaw2 l Z a0 hw hst qa qb ql qr qs qm rA rB rC rD rE h0 n0 v6 v7 v8 v9 v10 v11 v12 v13 v14 v15 v16 x107 (0 : Int32) (0 : Int32) oa101 oa102 ou101 ou102 oa103 oa105 hx hby hret hlk hml hnm hS105 hZ105 hown105 X105 e105 hk105 N105 Xo105 KK105 F215 F216 F217 g105_1 F218 F219 g105_2 g105_3 (Nat.ne_of_lt (Nat.lt_of_lt_of_le g103_1.lt g105_0)) (Or.inr ⟨rfl, fun q => (fun w => hc256_118 w.1) ((own_word_eq i6 i7).mp q.2)⟩)
          · skip
            refine own_to (V := T105.setTop (mkF m 318 #[.val (.int qa), .val (.int qb), .val (.int ql), .val (.int qr), .val (.int qs), .val (.int qm), .val (.int v6), .val (.int v7), .val (.int v8), .val (.int v9), .val (.int v10), .val (.int v11), .val (.int v12), .val (.int v13), .val (.int v14), .val (.int v15), .val (.int v16), .val (.ref oa101), .val (.ref oa102), .val (.ref oa103), .val (.ref oa105), .val (.int x107), .val (.int (0 : Int32)), .val (.int (0 : Int32))] [])) ?_ fun t k => (by
              refine XS.icmpYes X105.here hx rfl (pc0 := 303) (pc' := 315) rfl (hb hby at_303) rfl (feq (hc303_214 : ¬ (v15 = v16))).2 (by decide) (by decide) ?_
              refine XS.iconst X105.here hx rfl (hb hby at_315) ?_
              refine XS.istore X105.here hx rfl (hb hby at_316) rfl (l' := #[.val (.int qa), .val (.int qb), .val (.int ql), .val (.int qr), .val (.int qs), .val (.int qm), .val (.int v6), .val (.int v7), .val (.int v8), .val (.int v9), .val (.int v10), .val (.int v11), .val (.int v12), .val (.int v13), .val (.int v14), .val (.int v15), .val (.int v16), .val (.ref oa101), .val (.ref oa102), .val (.ref oa103), .val (.ref oa105), .val (.int x107), .val (.int (0 : Int32)), .val (.int (0 : Int32))]) rfl ?_
              exact k)
            have F220 : own_Str Z h105 oa101 ou101 (own_word v6 v9 v10 v11) := ((F104.keep K103 List.not_mem_nil List.not_mem_nil).keep K105 List.not_mem_nil List.not_mem_nil)
            have F221 : own_Str Z h105 oa102 ou102 (own_word v7 v12 v13 v14) := (F106.keep K105 List.not_mem_nil List.not_mem_nil)
            have F222 : Exa Z h105 oa103 "com/example/eager_query/eagerquery/model/Element" := (g103_1.keep K105)
            have F223 : Fld Z h105 oa103 "com/example/eager_query/eagerquery/model/Element" "role" "Lcom/example/eager_query/eagerquery/model/Role;" (own_roleV rA rB rC rD rE v15) := (g103_2.keep K105 List.not_mem_nil)
            have F224 : Fld Z h105 oa103 "com/example/eager_query/eagerquery/model/Element" "word" "Ljava/lang/String;" (.ref oa101) := (g103_3.keep K105 List.not_mem_nil)
            exact own_sglaw2 l Z a0 hw hst qa qb ql qr qs qm rA rB rC rD rE h0 n0 v6 v7 v8 v9 v10 v11 v12 v13 v14 v15 v16 x107 (0 : Int32) (0 : Int32) oa101 oa102 ou101 ou102 oa103 oa105 hx hby hret hlk hml hnm hS105 hZ105 hown105 X105 e105 hk105 N105 Xo105 KK105 F220 F221 F222 g105_1 F223 F224 g105_2 g105_3 (Nat.ne_of_lt (Nat.lt_of_lt_of_le g103_1.lt g105_0)) (Or.inr ⟨rfl, fun q => hc303_214 (own_roleV_inj hR i15 i16 q.1)⟩)
theorem own_ef_law (m : MethodId) (qa : Int32) (qb : Int32) (ql : Int32) (qr : Int32) (qs : Int32) (qm : Int32)  : entryFrame m #[(.int qa), (.int qb), (.int ql), (.int qr), (.int qs), (.int qm)] maxLocals = mkF m 0 #[.val (.int qa), .val (.int qb), .val (.int ql), .val (.int qr), .val (.int qs), .val (.int qm), .unset, .unset, .unset, .unset, .unset, .unset, .unset, .unset, .unset, .unset, .unset, .unset, .unset, .unset, .unset, .unset, .unset, .unset] [] := by first | (simp [entryFrame, mkF, argsToLocals, Value.category, maxLocals]; done) | rfl
set_option maxRecDepth 65536 in
set_option maxHeartbeats 40000000 in
theorem own_rmlaw (l : Launch) (Z : State) (a0 : Array Value) (hw : ∀ d ∈ tables_1, d.before a0 Z = true) (hst : own_St Z) (ws : List Jvm.Cond) (qa : Int32) (qb : Int32) (ql : Int32) (qr : Int32) (qs : Int32) (qm : Int32) (rA : Addr) (rB : Addr) (rC : Addr) (rD : Addr) (rE : Addr) (h0 : Heap) (n0 : Nat) (X00 : Old Z n0 h0) (hR : own_Roles Z rA rB rC rD rE) :
    MetFree l x (head1 (Jvm.Cond.code x code maxLocals ret :: ws) room_1) (fun a U => a = #[(.int qa), (.int qb), (.int ql), (.int qr), (.int qs), (.int qm)] ∧ Z.Warmed39 U.vm ∧ U.heap = h0) (fun _ _ _ _ _ => True) (fun _ U o U' => ∃ v L, o = .returned v ∧ own_Qlaw Z qa qb ql qr qs qm rA rB rC rD rE h0 n0 v U'.heap L ∧ ReturnedEndW U o U' L room_1.cells room_1.slots) := by
  refine MetFree.of_bodySF (plainFor_of_name own_pn0) hisR ?_
  intro p e s m args below meth c s₁ Bd hml0 hP hK
  obtain ⟨rfl, hZ, hh⟩ := hP
  have hx := Bd.exec
  have hby := Bd.bytes
  have hret := Bd.returns
  have hlk : meth.locks = false := BodyLoose.notSynchronized Bd
  have hml : c.maxLocals = 24 := hml0
  have hown : s.vm.findClass "com/example/eager_query/eagerquery/model/ElementEqualsPinLaw" = some m.cls := findClass_of_methodNamed Bd.named
  have hnm := (name_of_methodNamed Bd.named Bd.method).1
  have X0 : Stand p l e room_1 (s.setVm s.vm) m #[(.int qa), (.int qb), (.int ql), (.int qr), (.int qs), (.int qm)] below meth c s₁ [] 0 0 := Stand.of_body Bd
  have e0 : s₁.heap = h0 := by rw [← hh, Bd.state]; rfl
  have N0 := Fr.nil n0
  have KK0 : Keep h0 h0 [] := Keep.refl h0 _
  have hS0 : s.Since s.vm 0 := (State.WarmedH.refl s).since 0
  have hk0 : 0 ≤ h0.size := Nat.zero_le _
  refine own_startW (own_Qlaw Z qa qb ql qr qs qm rA rB rC rD rE h0 n0) ?_
  refine own_to (V := s₁.setTop (mkF m 0 #[.val (.int qa), .val (.int qb), .val (.int ql), .val (.int qr), .val (.int qs), .val (.int qm), .unset, .unset, .unset, .unset, .unset, .unset, .unset, .unset, .unset, .unset, .unset, .unset, .unset, .unset, .unset, .unset, .unset, .unset] [])) ?_ (fun t k => castTop (own_ef_law m qa qb ql qr qs qm ) k)
  obtain ⟨⟨G1, O2, P5⟩, ⟨G3, O4, rG3⟩, -⟩ := id hst
  refine own_to (V := s₁.setTop (mkF m 2 #[.val (.int qa), .val (.int qb), .val (.int ql), .val (.int qr), .val (.int qs), .val (.int qm), .unset, .unset, .unset, .unset, .unset, .unset, .unset, .unset, .unset, .unset, .unset, .unset, .unset, .unset, .unset, .unset, .unset, .unset] [(.int ql), (.int (1 : Int32))])) ?_ fun t k => (by
    refine XS.iconst X0.here hx rfl (hb hby at_0) ?_
    refine XS.iloadN X0.here hx rfl (hb hby at_1) rfl ?_
    exact k)
  refine own_to (V := s₁.setTop (mkF m 4 #[.val (.int qa), .val (.int qb), .val (.int ql), .val (.int qr), .val (.int qs), .val (.int qm), .unset, .unset, .unset, .unset, .unset, .unset, .unset, .unset, .unset, .unset, .unset, .unset, .unset, .unset, .unset, .unset, .unset, .unset] [(.int (2147483647 : Int32)), (.int ql), (.int (1 : Int32))])) ?_ (fun t k => X0.ldcInt hx hown (mvT hZ (hw _ (List.mem_of_getElem? (i := 0) rfl))) (g := (mkF m 2 #[.val (.int qa), .val (.int qb), .val (.int ql), .val (.int qr), .val (.int qs), .val (.int qm), .unset, .unset, .unset, .unset, .unset, .unset, .unset, .unset, .unset, .unset, .unset, .unset, .unset, .unset, .unset, .unset, .unset, .unset] [(.int ql), (.int (1 : Int32))])) rfl (hb hby at_2) t k)
  obtain ⟨x101, hx101⟩ : ∃ z : Int32, z = ((1 : Int32) + ((ql &&& (2147483647 : Int32)) % (3 : Int32))) := ⟨_, rfl⟩
  refine own_to (V := s₁.setTop (mkF m 10 #[.val (.int qa), .val (.int qb), .val (.int ql), .val (.int qr), .val (.int qs), .val (.int qm), .val (.int x101), .unset, .unset, .unset, .unset, .unset, .unset, .unset, .unset, .unset, .unset, .unset, .unset, .unset, .unset, .unset, .unset, .unset] [])) ?_ fun t k => (by
    first | rw [hx101] at k | skip
    refine XS.iand X0.here hx rfl (hb hby at_4) rfl ?_
    refine XS.iconst X0.here hx rfl (hb hby at_5) ?_
    refine own_irem X0.here hx rfl (hb hby at_6) rfl (by decide) ?_
    refine XS.iadd X0.here hx rfl (hb hby at_7) rfl ?_
    refine XS.istore X0.here hx rfl (hb hby at_8) rfl (l' := #[.val (.int qa), .val (.int qb), .val (.int ql), .val (.int qr), .val (.int qs), .val (.int qm), .val (.int ((1 : Int32) + ((ql &&& (2147483647 : Int32)) % (3 : Int32)))), .unset, .unset, .unset, .unset, .unset, .unset, .unset, .unset, .unset, .unset, .unset, .unset, .unset, .unset, .unset, .unset, .unset]) rfl ?_
    exact k)
  refine own_to (V := s₁.setTop (mkF m 15 #[.val (.int qa), .val (.int qb), .val (.int ql), .val (.int qr), .val (.int qs), .val (.int qm), .val (.int x101), .unset, .unset, .unset, .unset, .unset, .unset, .unset, .unset, .unset, .unset, .unset, .unset, .unset, .unset, .unset, .unset, .unset] [(.int (qm &&& (16 : Int32)))])) ?_ fun t k => (by
    refine XS.iload X0.here hx rfl (hb hby at_10) rfl ?_
    refine XS.bipush X0.here hx rfl (hb hby at_12) ?_
    refine XS.iand X0.here hx rfl (hb hby at_14) rfl ?_
    exact k)
  by_cases hc15_102 : (qm &&& (16 : Int32)) = (0 : Int32)
  · skip
    refine own_to (V := s₁.setTop (mkF m 28 #[.val (.int qa), .val (.int qb), .val (.int ql), .val (.int qr), .val (.int qs), .val (.int qm), .val (.int x101), .unset, .unset, .unset, .unset, .unset, .unset, .unset, .unset, .unset, .unset, .unset, .unset, .unset, .unset, .unset, .unset, .unset] [(.int ((ql.toUInt32 >>> ((8 : Int32) &&& 31).toUInt32).toInt32)), (.int (1 : Int32))])) ?_ fun t k => (by
      refine XS.ifYes X0.here hx rfl (pc0 := 15) (pc' := 23) rfl (hb hby at_15) rfl ((if0 _ _).trans (teq (hc15_102 : (qm &&& (16 : Int32)) = (0 : Int32))).1) (by decide) (by decide) ?_
      refine XS.iconst X0.here hx rfl (hb hby at_23) ?_
      refine XS.iloadN X0.here hx rfl (hb hby at_24) rfl ?_
      refine XS.bipush X0.here hx rfl (hb hby at_25) ?_
      refine XS.iushr X0.here hx rfl (hb hby at_27) rfl ?_
      exact k)
    refine own_to (V := s₁.setTop (mkF m 30 #[.val (.int qa), .val (.int qb), .val (.int ql), .val (.int qr), .val (.int qs), .val (.int qm), .val (.int x101), .unset, .unset, .unset, .unset, .unset, .unset, .unset, .unset, .unset, .unset, .unset, .unset, .unset, .unset, .unset, .unset, .unset] [(.int (2147483647 : Int32)), (.int ((ql.toUInt32 >>> ((8 : Int32) &&& 31).toUInt32).toInt32)), (.int (1 : Int32))])) ?_ (fun t k => X0.ldcInt hx hown (mvT hZ (hw _ (List.mem_of_getElem? (i := 0) rfl))) (g := (mkF m 28 #[.val (.int qa), .val (.int qb), .val (.int ql), .val (.int qr), .val (.int qs), .val (.int qm), .val (.int x101), .unset, .unset, .unset, .unset, .unset, .unset, .unset, .unset, .unset, .unset, .unset, .unset, .unset, .unset, .unset, .unset, .unset] [(.int ((ql.toUInt32 >>> ((8 : Int32) &&& 31).toUInt32).toInt32)), (.int (1 : Int32))])) rfl (hb hby at_28) t k)
    obtain ⟨x103, hx103⟩ : ∃ z : Int32, z = ((1 : Int32) + ((((ql.toUInt32 >>> ((8 : Int32) &&& 31).toUInt32).toInt32) &&& (2147483647 : Int32)) % (3 : Int32))) := ⟨_, rfl⟩
    refine own_to (V := s₁.setTop (mkF m 36 #[.val (.int qa), .val (.int qb), .val (.int ql), .val (.int qr), .val (.int qs), .val (.int qm), .val (.int x101), .val (.int x103), .unset, .unset, .unset, .unset, .unset, .unset, .unset, .unset, .unset, .unset, .unset, .unset, .unset, .unset, .unset, .unset] [])) ?_ fun t k => (by
      first | rw [hx103] at k | skip
      refine XS.iand X0.here hx rfl (hb hby at_30) rfl ?_
      refine XS.iconst X0.here hx rfl (hb hby at_31) ?_
      refine own_irem X0.here hx rfl (hb hby at_32) rfl (by decide) ?_
      refine XS.iadd X0.here hx rfl (hb hby at_33) rfl ?_
      refine XS.istore X0.here hx rfl (hb hby at_34) rfl (l' := #[.val (.int qa), .val (.int qb), .val (.int ql), .val (.int qr), .val (.int qs), .val (.int qm), .val (.int x101), .val (.int ((1 : Int32) + ((((ql.toUInt32 >>> ((8 : Int32) &&& 31).toUInt32).toInt32) &&& (2147483647 : Int32)) % (3 : Int32)))), .unset, .unset, .unset, .unset, .unset, .unset, .unset, .unset, .unset, .unset, .unset, .unset, .unset, .unset, .unset, .unset]) rfl ?_
      exact k)
    refine own_to (V := s₁.setTop (mkF m 40 #[.val (.int qa), .val (.int qb), .val (.int ql), .val (.int qr), .val (.int qs), .val (.int qm), .val (.int x101), .val (.int x103), .unset, .unset, .unset, .unset, .unset, .unset, .unset, .unset, .unset, .unset, .unset, .unset, .unset, .unset, .unset, .unset] [(.int (qm &&& (4 : Int32)))])) ?_ fun t k => (by
      refine XS.iload X0.here hx rfl (hb hby at_36) rfl ?_
      refine XS.iconst X0.here hx rfl (hb hby at_38) ?_
      refine XS.iand X0.here hx rfl (hb hby at_39) rfl ?_
      exact k)
    by_cases hc40_104 : (qm &&& (4 : Int32)) = (0 : Int32)
    · skip
      obtain ⟨c105, hc105⟩ : ∃ z : Int32, z = ((qa &&& (255 : Int32)).toUInt32.toUInt16.toUInt32.toInt32) := ⟨_, rfl⟩
      have rc_c105 : ¬ c105 < 0 ∧ ¬ (65535 : Int32) < c105 := by rw [hc105]; exact own_i2c_rng _
      have rb_c105 : ¬ c105 < 0 ∧ ¬ (255 : Int32) < c105 := by rw [hc105]; exact own_and255 _
      refine own_to (V := s₁.setTop (mkF m 56 #[.val (.int qa), .val (.int qb), .val (.int ql), .val (.int qr), .val (.int qs), .val (.int qm), .val (.int x101), .val (.int x103), .val (.int qb), .unset, .unset, .unset, .unset, .unset, .unset, .unset, .unset, .unset, .unset, .unset, .unset, .unset, .unset, .unset] [(.int c105)])) ?_ fun t k => (by
        first | rw [hc105] at k | skip
        refine XS.ifYes X0.here hx rfl (pc0 := 40) (pc' := 47) rfl (hb hby at_40) rfl ((if0 _ _).trans (teq (hc40_104 : (qm &&& (4 : Int32)) = (0 : Int32))).1) (by decide) (by decide) ?_
        refine XS.iloadN X0.here hx rfl (hb hby at_47) rfl ?_
        refine XS.istore X0.here hx rfl (hb hby at_48) rfl (l' := #[.val (.int qa), .val (.int qb), .val (.int ql), .val (.int qr), .val (.int qs), .val (.int qm), .val (.int x101), .val (.int x103), .val (.int qb), .unset, .unset, .unset, .unset, .unset, .unset, .unset, .unset, .unset, .unset, .unset, .unset, .unset, .unset, .unset]) rfl ?_
        refine XS.iloadN X0.here hx rfl (hb hby at_50) rfl ?_
        refine XS.sipush X0.here hx rfl (hb hby at_51) ?_
        refine XS.iand X0.here hx rfl (hb hby at_54) rfl ?_
        refine XS.i2c X0.here hx rfl (hb hby at_55) rfl ?_
        exact k)
      obtain ⟨c106, hc106⟩ : ∃ z : Int32, z = ((((qa.toUInt32 >>> ((8 : Int32) &&& 31).toUInt32).toInt32) &&& (255 : Int32)).toUInt32.toUInt16.toUInt32.toInt32) := ⟨_, rfl⟩
      have rc_c106 : ¬ c106 < 0 ∧ ¬ (65535 : Int32) < c106 := by rw [hc106]; exact own_i2c_rng _
      have rb_c106 : ¬ c106 < 0 ∧ ¬ (255 : Int32) < c106 := by rw [hc106]; exact own_and255 _
      refine own_to (V := s₁.setTop (mkF m 67 #[.val (.int qa), .val (.int qb), .val (.int ql), .val (.int qr), .val (.int qs), .val (.int qm), .val (.int x101), .val (.int x103), .val (.int qb), .val (.int c105), .unset, .unset, .unset, .unset, .unset, .unset, .unset, .unset, .unset, .unset, .unset, .unset, .unset, .unset] [(.int c106)])) ?_ fun t k => (by
        first | rw [hc106] at k | skip
        refine XS.istore X0.here hx rfl (hb hby at_56) rfl (l' := #[.val (.int qa), .val (.int qb), .val (.int ql), .val (.int qr), .val (.int qs), .val (.int qm), .val (.int x101), .val (.int x103), .val (.int qb), .val (.int c105), .unset, .unset, .unset, .unset, .unset, .unset, .unset, .unset, .unset, .unset, .unset, .unset, .unset, .unset]) rfl ?_
        refine XS.iloadN X0.here hx rfl (hb hby at_58) rfl ?_
        refine XS.bipush X0.here hx rfl (hb hby at_59) ?_
        refine XS.iushr X0.here hx rfl (hb hby at_61) rfl ?_
        refine XS.sipush X0.here hx rfl (hb hby at_62) ?_
        refine XS.iand X0.here hx rfl (hb hby at_65) rfl ?_
        refine XS.i2c X0.here hx rfl (hb hby at_66) rfl ?_
        exact k)
      obtain ⟨c107, hc107⟩ : ∃ z : Int32, z = ((((qa.toUInt32 >>> ((16 : Int32) &&& 31).toUInt32).toInt32) &&& (255 : Int32)).toUInt32.toUInt16.toUInt32.toInt32) := ⟨_, rfl⟩
      have rc_c107 : ¬ c107 < 0 ∧ ¬ (65535 : Int32) < c107 := by rw [hc107]; exact own_i2c_rng _
      have rb_c107 : ¬ c107 < 0 ∧ ¬ (255 : Int32) < c107 := by rw [hc107]; exact own_and255 _
      refine own_to (V := s₁.setTop (mkF m 78 #[.val (.int qa), .val (.int qb), .val (.int ql), .val (.int qr), .val (.int qs), .val (.int qm), .val (.int x101), .val (.int x103), .val (.int qb), .val (.int c105), .val (.int c106), .unset, .unset, .unset, .unset, .unset, .unset, .unset, .unset, .unset, .unset, .unset, .unset, .unset] [(.int c107)])) ?_ fun t k => (by
        first | rw [hc107] at k | skip
        refine XS.istore X0.here hx rfl (hb hby at_67) rfl (l' := #[.val (.int qa), .val (.int qb), .val (.int ql), .val (.int qr), .val (.int qs), .val (.int qm), .val (.int x101), .val (.int x103), .val (.int qb), .val (.int c105), .val (.int c106), .unset, .unset, .unset, .unset, .unset, .unset, .unset, .unset, .unset, .unset, .unset, .unset, .unset]) rfl ?_
        refine XS.iloadN X0.here hx rfl (hb hby at_69) rfl ?_
        refine XS.bipush X0.here hx rfl (hb hby at_70) ?_
        refine XS.iushr X0.here hx rfl (hb hby at_72) rfl ?_
        refine XS.sipush X0.here hx rfl (hb hby at_73) ?_
        refine XS.iand X0.here hx rfl (hb hby at_76) rfl ?_
        refine XS.i2c X0.here hx rfl (hb hby at_77) rfl ?_
        exact k)
      obtain ⟨c108, hc108⟩ : ∃ z : Int32, z = ((qb &&& (255 : Int32)).toUInt32.toUInt16.toUInt32.toInt32) := ⟨_, rfl⟩
      have rc_c108 : ¬ c108 < 0 ∧ ¬ (65535 : Int32) < c108 := by rw [hc108]; exact own_i2c_rng _
      have rb_c108 : ¬ c108 < 0 ∧ ¬ (255 : Int32) < c108 := by rw [hc108]; exact own_and255 _
      refine own_to (V := s₁.setTop (mkF m 87 #[.val (.int qa), .val (.int qb), .val (.int ql), .val (.int qr), .val (.int qs), .val (.int qm), .val (.int x101), .val (.int x103), .val (.int qb), .val (.int c105), .val (.int c106), .val (.int c107), .unset, .unset, .unset, .unset, .unset, .unset, .unset, .unset, .unset, .unset, .unset, .unset] [(.int c108)])) ?_ fun t k => (by
        first | rw [hc108] at k | skip
        refine XS.istore X0.here hx rfl (hb hby at_78) rfl (l' := #[.val (.int qa), .val (.int qb), .val (.int ql), .val (.int qr), .val (.int qs), .val (.int qm), .val (.int x101), .val (.int x103), .val (.int qb), .val (.int c105), .val (.int c106), .val (.int c107), .unset, .unset, .unset, .unset, .unset, .unset, .unset, .unset, .unset, .unset, .unset, .unset]) rfl ?_
        refine XS.iload X0.here hx rfl (hb hby at_80) rfl ?_
        refine XS.sipush X0.here hx rfl (hb hby at_82) ?_
        refine XS.iand X0.here hx rfl (hb hby at_85) rfl ?_
        refine XS.i2c X0.here hx rfl (hb hby at_86) rfl ?_
        exact k)
      obtain ⟨c109, hc109⟩ : ∃ z : Int32, z = ((((qb.toUInt32 >>> ((8 : Int32) &&& 31).toUInt32).toInt32) &&& (255 : Int32)).toUInt32.toUInt16.toUInt32.toInt32) := ⟨_, rfl⟩
      have rc_c109 : ¬ c109 < 0 ∧ ¬ (65535 : Int32) < c109 := by rw [hc109]; exact own_i2c_rng _
      have rb_c109 : ¬ c109 < 0 ∧ ¬ (255 : Int32) < c109 := by rw [hc109]; exact own_and255 _
      refine own_to (V := s₁.setTop (mkF m 99 #[.val (.int qa), .val (.int qb), .val (.int ql), .val (.int qr), .val (.int qs), .val (.int qm), .val (.int x101), .val (.int x103), .val (.int qb), .val (.int c105), .val (.int c106), .val (.int c107), .val (.int c108), .unset, .unset, .unset, .unset, .unset, .unset, .unset, .unset, .unset, .unset, .unset] [(.int c109)])) ?_ fun t k => (by
        first | rw [hc109] at k | skip
        refine XS.istore X0.here hx rfl (hb hby at_87) rfl (l' := #[.val (.int qa), .val (.int qb), .val (.int ql), .val (.int qr), .val (.int qs), .val (.int qm), .val (.int x101), .val (.int x103), .val (.int qb), .val (.int c105), .val (.int c106), .val (.int c107), .val (.int c108), .unset, .unset, .unset, .unset, .unset, .unset, .unset, .unset, .unset, .unset, .unset]) rfl ?_
        refine XS.iload X0.here hx rfl (hb hby at_89) rfl ?_
        refine XS.bipush X0.here hx rfl (hb hby at_91) ?_
        refine XS.iushr X0.here hx rfl (hb hby at_93) rfl ?_
        refine XS.sipush X0.here hx rfl (hb hby at_94) ?_
        refine XS.iand X0.here hx rfl (hb hby at_97) rfl ?_
        refine XS.i2c X0.here hx rfl (hb hby at_98) rfl ?_
        exact k)
      obtain ⟨c110, hc110⟩ : ∃ z : Int32, z = ((((qb.toUInt32 >>> ((16 : Int32) &&& 31).toUInt32).toInt32) &&& (255 : Int32)).toUInt32.toUInt16.toUInt32.toInt32) := ⟨_, rfl⟩
      have rc_c110 : ¬ c110 < 0 ∧ ¬ (65535 : Int32) < c110 := by rw [hc110]; exact own_i2c_rng _
      have rb_c110 : ¬ c110 < 0 ∧ ¬ (255 : Int32) < c110 := by rw [hc110]; exact own_and255 _
      refine own_to (V := s₁.setTop (mkF m 111 #[.val (.int qa), .val (.int qb), .val (.int ql), .val (.int qr), .val (.int qs), .val (.int qm), .val (.int x101), .val (.int x103), .val (.int qb), .val (.int c105), .val (.int c106), .val (.int c107), .val (.int c108), .val (.int c109), .unset, .unset, .unset, .unset, .unset, .unset, .unset, .unset, .unset, .unset] [(.int c110)])) ?_ fun t k => (by
        first | rw [hc110] at k | skip
        refine XS.istore X0.here hx rfl (hb hby at_99) rfl (l' := #[.val (.int qa), .val (.int qb), .val (.int ql), .val (.int qr), .val (.int qs), .val (.int qm), .val (.int x101), .val (.int x103), .val (.int qb), .val (.int c105), .val (.int c106), .val (.int c107), .val (.int c108), .val (.int c109), .unset, .unset, .unset, .unset, .unset, .unset, .unset, .unset, .unset, .unset]) rfl ?_
        refine XS.iload X0.here hx rfl (hb hby at_101) rfl ?_
        refine XS.bipush X0.here hx rfl (hb hby at_103) ?_
        refine XS.iushr X0.here hx rfl (hb hby at_105) rfl ?_
        refine XS.sipush X0.here hx rfl (hb hby at_106) ?_
        refine XS.iand X0.here hx rfl (hb hby at_109) rfl ?_
        refine XS.i2c X0.here hx rfl (hb hby at_110) rfl ?_
        exact k)
      refine own_to (V := s₁.setTop (mkF m 114 #[.val (.int qa), .val (.int qb), .val (.int ql), .val (.int qr), .val (.int qs), .val (.int qm), .val (.int x101), .val (.int x103), .val (.int qb), .val (.int c105), .val (.int c106), .val (.int c107), .val (.int c108), .val (.int c109), .val (.int c110), .unset, .unset, .unset, .unset, .unset, .unset, .unset, .unset, .unset] [(.int qr)])) ?_ fun t k => (by
        refine XS.istore X0.here hx rfl (hb hby at_111) rfl (l' := #[.val (.int qa), .val (.int qb), .val (.int ql), .val (.int qr), .val (.int qs), .val (.int qm), .val (.int x101), .val (.int x103), .val (.int qb), .val (.int c105), .val (.int c106), .val (.int c107), .val (.int c108), .val (.int c109), .val (.int c110), .unset, .unset, .unset, .unset, .unset, .unset, .unset, .unset, .unset]) rfl ?_
        refine XS.iloadN X0.here hx rfl (hb hby at_113) rfl ?_
        exact k)
      refine own_to (V := s₁.setTop (mkF m 116 #[.val (.int qa), .val (.int qb), .val (.int ql), .val (.int qr), .val (.int qs), .val (.int qm), .val (.int x101), .val (.int x103), .val (.int qb), .val (.int c105), .val (.int c106), .val (.int c107), .val (.int c108), .val (.int c109), .val (.int c110), .unset, .unset, .unset, .unset, .unset, .unset, .unset, .unset, .unset] [(.int (2147483647 : Int32)), (.int qr)])) ?_ (fun t k => X0.ldcInt hx hown (mvT hZ (hw _ (List.mem_of_getElem? (i := 0) rfl))) (g := (mkF m 114 #[.val (.int qa), .val (.int qb), .val (.int ql), .val (.int qr), .val (.int qs), .val (.int qm), .val (.int x101), .val (.int x103), .val (.int qb), .val (.int c105), .val (.int c106), .val (.int c107), .val (.int c108), .val (.int c109), .val (.int c110), .unset, .unset, .unset, .unset, .unset, .unset, .unset, .unset, .unset] [(.int qr)])) rfl (hb hby at_114) t k)
      obtain ⟨x111, hx111⟩ : ∃ z : Int32, z = ((qr &&& (2147483647 : Int32)) % (6 : Int32)) := ⟨_, rfl⟩
      refine own_to (V := s₁.setTop (mkF m 122 #[.val (.int qa), .val (.int qb), .val (.int ql), .val (.int qr), .val (.int qs), .val (.int qm), .val (.int x101), .val (.int x103), .val (.int qb), .val (.int c105), .val (.int c106), .val (.int c107), .val (.int c108), .val (.int c109), .val (.int c110), .val (.int x111), .unset, .unset, .unset, .unset, .unset, .unset, .unset, .unset] [])) ?_ fun t k => (by
        first | rw [hx111] at k | skip
        refine XS.iand X0.here hx rfl (hb hby at_116) rfl ?_
        refine XS.bipush X0.here hx rfl (hb hby at_117) ?_
        refine own_irem X0.here hx rfl (hb hby at_119) rfl (by decide) ?_
        refine XS.istore X0.here hx rfl (hb hby at_120) rfl (l' := #[.val (.int qa), .val (.int qb), .val (.int ql), .val (.int qr), .val (.int qs), .val (.int qm), .val (.int x101), .val (.int x103), .val (.int qb), .val (.int c105), .val (.int c106), .val (.int c107), .val (.int c108), .val (.int c109), .val (.int c110), .val (.int ((qr &&& (2147483647 : Int32)) % (6 : Int32))), .unset, .unset, .unset, .unset, .unset, .unset, .unset, .unset]) rfl ?_
        exact k)
      refine own_to (V := s₁.setTop (mkF m 127 #[.val (.int qa), .val (.int qb), .val (.int ql), .val (.int qr), .val (.int qs), .val (.int qm), .val (.int x101), .val (.int x103), .val (.int qb), .val (.int c105), .val (.int c106), .val (.int c107), .val (.int c108), .val (.int c109), .val (.int c110), .val (.int x111), .unset, .unset, .unset, .unset, .unset, .unset, .unset, .unset] [(.int (qm &&& (8 : Int32)))])) ?_ fun t k => (by
        refine XS.iload X0.here hx rfl (hb hby at_122) rfl ?_
        refine XS.bipush X0.here hx rfl (hb hby at_124) ?_
        refine XS.iand X0.here hx rfl (hb hby at_126) rfl ?_
        exact k)
      by_cases hc127_112 : (qm &&& (8 : Int32)) = (0 : Int32)
      · skip
        refine own_to (V := s₁.setTop (mkF m 137 #[.val (.int qa), .val (.int qb), .val (.int ql), .val (.int qr), .val (.int qs), .val (.int qm), .val (.int x101), .val (.int x103), .val (.int qb), .val (.int c105), .val (.int c106), .val (.int c107), .val (.int c108), .val (.int c109), .val (.int c110), .val (.int x111), .unset, .unset, .unset, .unset, .unset, .unset, .unset, .unset] [(.int qs)])) ?_ fun t k => (by
          refine XS.ifYes X0.here hx rfl (pc0 := 127) (pc' := 135) rfl (hb hby at_127) rfl ((if0 _ _).trans (teq (hc127_112 : (qm &&& (8 : Int32)) = (0 : Int32))).1) (by decide) (by decide) ?_
          refine XS.iload X0.here hx rfl (hb hby at_135) rfl ?_
          exact k)
        refine own_to (V := s₁.setTop (mkF m 139 #[.val (.int qa), .val (.int qb), .val (.int ql), .val (.int qr), .val (.int qs), .val (.int qm), .val (.int x101), .val (.int x103), .val (.int qb), .val (.int c105), .val (.int c106), .val (.int c107), .val (.int c108), .val (.int c109), .val (.int c110), .val (.int x111), .unset, .unset, .unset, .unset, .unset, .unset, .unset, .unset] [(.int (2147483647 : Int32)), (.int qs)])) ?_ (fun t k => X0.ldcInt hx hown (mvT hZ (hw _ (List.mem_of_getElem? (i := 0) rfl))) (g := (mkF m 137 #[.val (.int qa), .val (.int qb), .val (.int ql), .val (.int qr), .val (.int qs), .val (.int qm), .val (.int x101), .val (.int x103), .val (.int qb), .val (.int c105), .val (.int c106), .val (.int c107), .val (.int c108), .val (.int c109), .val (.int c110), .val (.int x111), .unset, .unset, .unset, .unset, .unset, .unset, .unset, .unset] [(.int qs)])) rfl (hb hby at_137) t k)
        obtain ⟨x113, hx113⟩ : ∃ z : Int32, z = ((qs &&& (2147483647 : Int32)) % (6 : Int32)) := ⟨_, rfl⟩
        refine own_to (V := s₁.setTop (mkF m 145 #[.val (.int qa), .val (.int qb), .val (.int ql), .val (.int qr), .val (.int qs), .val (.int qm), .val (.int x101), .val (.int x103), .val (.int qb), .val (.int c105), .val (.int c106), .val (.int c107), .val (.int c108), .val (.int c109), .val (.int c110), .val (.int x111), .val (.int x113), .unset, .unset, .unset, .unset, .unset, .unset, .unset] [])) ?_ fun t k => (by
          first | rw [hx113] at k | skip
          refine XS.iand X0.here hx rfl (hb hby at_139) rfl ?_
          refine XS.bipush X0.here hx rfl (hb hby at_140) ?_
          refine own_irem X0.here hx rfl (hb hby at_142) rfl (by decide) ?_
          refine XS.istore X0.here hx rfl (hb hby at_143) rfl (l' := #[.val (.int qa), .val (.int qb), .val (.int ql), .val (.int qr), .val (.int qs), .val (.int qm), .val (.int x101), .val (.int x103), .val (.int qb), .val (.int c105), .val (.int c106), .val (.int c107), .val (.int c108), .val (.int c109), .val (.int c110), .val (.int x111), .val (.int ((qs &&& (2147483647 : Int32)) % (6 : Int32))), .unset, .unset, .unset, .unset, .unset, .unset, .unset]) rfl ?_
          exact k)
        exact own_sglaw1 l Z a0 hw hst qa qb ql qr qs qm rA rB rC rD rE h0 n0 x101 x103 qb c105 c106 c107 c108 c109 c110 x111 x113 hx hby hret hlk hml hnm hS0 hZ hown X0 e0 hk0 N0 X00 KK0 hR rb_c105 rb_c106 rb_c107 rb_c108 rb_c109 rb_c110 (by rw [hx101]; exact own_rem3 _) (by rw [hx103]; exact own_rem3 _) (by rw [hx111]; exact own_rem6 _) (by rw [hx113]; exact own_rem6 _)
      · skip
        refine own_to (V := s₁.setTop (mkF m 145 #[.val (.int qa), .val (.int qb), .val (.int ql), .val (.int qr), .val (.int qs), .val (.int qm), .val (.int x101), .val (.int x103), .val (.int qb), .val (.int c105), .val (.int c106), .val (.int c107), .val (.int c108), .val (.int c109), .val (.int c110), .val (.int x111), .val (.int x111), .unset, .unset, .unset, .unset, .unset, .unset, .unset] [])) ?_ fun t k => (by
          refine XS.ifNo X0.here hx rfl (hb hby at_127) rfl ((if0 _ _).trans (feq (hc127_112 : ¬ ((qm &&& (8 : Int32)) = (0 : Int32)))).1) ?_
          refine XS.iload X0.here hx rfl (hb hby at_130) rfl ?_
          refine XS.goto X0.here hx rfl (pc0 := 132) (pc' := 143) rfl (hb hby at_132) (by decide) (by decide) ?_
          refine XS.istore X0.here hx rfl (hb hby at_143) rfl (l' := #[.val (.int qa), .val (.int qb), .val (.int ql), .val (.int qr), .val (.int qs), .val (.int qm), .val (.int x101), .val (.int x103), .val (.int qb), .val (.int c105), .val (.int c106), .val (.int c107), .val (.int c108), .val (.int c109), .val (.int c110), .val (.int x111), .val (.int x111), .unset, .unset, .unset, .unset, .unset, .unset, .unset]) rfl ?_
          exact k)
        exact own_sglaw1 l Z a0 hw hst qa qb ql qr qs qm rA rB rC rD rE h0 n0 x101 x103 qb c105 c106 c107 c108 c109 c110 x111 x111 hx hby hret hlk hml hnm hS0 hZ hown X0 e0 hk0 N0 X00 KK0 hR rb_c105 rb_c106 rb_c107 rb_c108 rb_c109 rb_c110 (by rw [hx101]; exact own_rem3 _) (by rw [hx103]; exact own_rem3 _) (by rw [hx111]; exact own_rem6 _) (by rw [hx111]; exact own_rem6 _)
    · skip
      obtain ⟨c114, hc114⟩ : ∃ z : Int32, z = ((qa &&& (255 : Int32)).toUInt32.toUInt16.toUInt32.toInt32) := ⟨_, rfl⟩
      have rc_c114 : ¬ c114 < 0 ∧ ¬ (65535 : Int32) < c114 := by rw [hc114]; exact own_i2c_rng _
      have rb_c114 : ¬ c114 < 0 ∧ ¬ (255 : Int32) < c114 := by rw [hc114]; exact own_and255 _
      refine own_to (V := s₁.setTop (mkF m 56 #[.val (.int qa), .val (.int qb), .val (.int ql), .val (.int qr), .val (.int qs), .val (.int qm), .val (.int x101), .val (.int x103), .val (.int qa), .unset, .unset, .unset, .unset, .unset, .unset, .unset, .unset, .unset, .unset, .unset, .unset, .unset, .unset, .unset] [(.int c114)])) ?_ fun t k => (by
        first | rw [hc114] at k | skip
        refine XS.ifNo X0.here hx rfl (hb hby at_40) rfl ((if0 _ _).trans (feq (hc40_104 : ¬ ((qm &&& (4 : Int32)) = (0 : Int32)))).1) ?_
        refine XS.iloadN X0.here hx rfl (hb hby at_43) rfl ?_
        refine XS.goto X0.here hx rfl (pc0 := 44) (pc' := 48) rfl (hb hby at_44) (by decide) (by decide) ?_
        refine XS.istore X0.here hx rfl (hb hby at_48) rfl (l' := #[.val (.int qa), .val (.int qb), .val (.int ql), .val (.int qr), .val (.int qs), .val (.int qm), .val (.int x101), .val (.int x103), .val (.int qa), .unset, .unset, .unset, .unset, .unset, .unset, .unset, .unset, .unset, .unset, .unset, .unset, .unset, .unset, .unset]) rfl ?_
        refine XS.iloadN X0.here hx rfl (hb hby at_50) rfl ?_
        refine XS.sipush X0.here hx rfl (hb hby at_51) ?_
        refine XS.iand X0.here hx rfl (hb hby at_54) rfl ?_
        refine XS.i2c X0.here hx rfl (hb hby at_55) rfl ?_
        exact k)
      obtain ⟨c115, hc115⟩ : ∃ z : Int32, z = ((((qa.toUInt32 >>> ((8 : Int32) &&& 31).toUInt32).toInt32) &&& (255 : Int32)).toUInt32.toUInt16.toUInt32.toInt32) := ⟨_, rfl⟩
      have rc_c115 : ¬ c115 < 0 ∧ ¬ (65535 : Int32) < c115 := by rw [hc115]; exact own_i2c_rng _
      have rb_c115 : ¬ c115 < 0 ∧ ¬ (255 : Int32) < c115 := by rw [hc115]; exact own_and255 _
      refine own_to (V := s₁.setTop (mkF m 67 #[.val (.int qa), .val (.int qb), .val (.int ql), .val (.int qr), .val (.int qs), .val (.int qm), .val (.int x101), .val (.int x103), .val (.int qa), .val (.int c114), .unset, .unset, .unset, .unset, .unset, .unset, .unset, .unset, .unset, .unset, .unset, .unset, .unset, .unset] [(.int c115)])) ?_ fun t k => (by
        first | rw [hc115] at k | skip
        refine XS.istore X0.here hx rfl (hb hby at_56) rfl (l' := #[.val (.int qa), .val (.int qb), .val (.int ql), .val (.int qr), .val (.int qs), .val (.int qm), .val (.int x101), .val (.int x103), .val (.int qa), .val (.int c114), .unset, .unset, .unset, .unset, .unset, .unset, .unset, .unset, .unset, .unset, .unset, .unset, .unset, .unset]) rfl ?_
        refine XS.iloadN X0.here hx rfl (hb hby at_58) rfl ?_
        refine XS.bipush X0.here hx rfl (hb hby at_59) ?_
        refine XS.iushr X0.here hx rfl (hb hby at_61) rfl ?_
        refine XS.sipush X0.here hx rfl (hb hby at_62) ?_
        refine XS.iand X0.here hx rfl (hb hby at_65) rfl ?_
        refine XS.i2c X0.here hx rfl (hb hby at_66) rfl ?_
        exact k)
      obtain ⟨c116, hc116⟩ : ∃ z : Int32, z = ((((qa.toUInt32 >>> ((16 : Int32) &&& 31).toUInt32).toInt32) &&& (255 : Int32)).toUInt32.toUInt16.toUInt32.toInt32) := ⟨_, rfl⟩
      have rc_c116 : ¬ c116 < 0 ∧ ¬ (65535 : Int32) < c116 := by rw [hc116]; exact own_i2c_rng _
      have rb_c116 : ¬ c116 < 0 ∧ ¬ (255 : Int32) < c116 := by rw [hc116]; exact own_and255 _
      refine own_to (V := s₁.setTop (mkF m 78 #[.val (.int qa), .val (.int qb), .val (.int ql), .val (.int qr), .val (.int qs), .val (.int qm), .val (.int x101), .val (.int x103), .val (.int qa), .val (.int c114), .val (.int c115), .unset, .unset, .unset, .unset, .unset, .unset, .unset, .unset, .unset, .unset, .unset, .unset, .unset] [(.int c116)])) ?_ fun t k => (by
        first | rw [hc116] at k | skip
        refine XS.istore X0.here hx rfl (hb hby at_67) rfl (l' := #[.val (.int qa), .val (.int qb), .val (.int ql), .val (.int qr), .val (.int qs), .val (.int qm), .val (.int x101), .val (.int x103), .val (.int qa), .val (.int c114), .val (.int c115), .unset, .unset, .unset, .unset, .unset, .unset, .unset, .unset, .unset, .unset, .unset, .unset, .unset]) rfl ?_
        refine XS.iloadN X0.here hx rfl (hb hby at_69) rfl ?_
        refine XS.bipush X0.here hx rfl (hb hby at_70) ?_
        refine XS.iushr X0.here hx rfl (hb hby at_72) rfl ?_
        refine XS.sipush X0.here hx rfl (hb hby at_73) ?_
        refine XS.iand X0.here hx rfl (hb hby at_76) rfl ?_
        refine XS.i2c X0.here hx rfl (hb hby at_77) rfl ?_
        exact k)
      obtain ⟨c117, hc117⟩ : ∃ z : Int32, z = ((qa &&& (255 : Int32)).toUInt32.toUInt16.toUInt32.toInt32) := ⟨_, rfl⟩
      refine own_to (V := s₁.setTop (mkF m 87 #[.val (.int qa), .val (.int qb), .val (.int ql), .val (.int qr), .val (.int qs), .val (.int qm), .val (.int x101), .val (.int x103), .val (.int qa), .val (.int c114), .val (.int c115), .val (.int c116), .unset, .unset, .unset, .unset, .unset, .unset, .unset, .unset, .unset, .unset, .unset, .unset] [(.int c117)])) ?_ fun t k => (by
        first | rw [hc117] at k | skip
        refine XS.istore X0.here hx rfl (hb hby at_78) rfl (l' := #[.val (.int qa), .val (.int qb), .val (.int ql), .val (.int qr), .val (.int qs), .val (.int qm), .val (.int x101), .val (.int x103), .val (.int qa), .val (.int c114), .val (.int c115), .val (.int c116), .unset, .unset, .unset, .unset, .unset, .unset, .unset, .unset, .unset, .unset, .unset, .unset]) rfl ?_
        refine XS.iload X0.here hx rfl (hb hby at_80) rfl ?_
        refine XS.sipush X0.here hx rfl (hb hby at_82) ?_
        refine XS.iand X0.here hx rfl (hb hby at_85) rfl ?_
        refine XS.i2c X0.here hx rfl (hb hby at_86) rfl ?_
        exact k)
      have hqc117 : c114 = c117 := hc114.trans hc117.symm
      subst hqc117
      obtain ⟨c118, hc118⟩ : ∃ z : Int32, z = ((((qa.toUInt32 >>> ((8 : Int32) &&& 31).toUInt32).toInt32) &&& (255 : Int32)).toUInt32.toUInt16.toUInt32.toInt32) := ⟨_, rfl⟩
      refine own_to (V := s₁.setTop (mkF m 99 #[.val (.int qa), .val (.int qb), .val (.int ql), .val (.int qr), .val (.int qs), .val (.int qm), .val (.int x101), .val (.int x103), .val (.int qa), .val (.int c114), .val (.int c115), .val (.int c116), .val (.int c114), .unset, .unset, .unset, .unset, .unset, .unset, .unset, .unset, .unset, .unset, .unset] [(.int c118)])) ?_ fun t k => (by
        first | rw [hc118] at k | skip
        refine XS.istore X0.here hx rfl (hb hby at_87) rfl (l' := #[.val (.int qa), .val (.int qb), .val (.int ql), .val (.int qr), .val (.int qs), .val (.int qm), .val (.int x101), .val (.int x103), .val (.int qa), .val (.int c114), .val (.int c115), .val (.int c116), .val (.int c114), .unset, .unset, .unset, .unset, .unset, .unset, .unset, .unset, .unset, .unset, .unset]) rfl ?_
        refine XS.iload X0.here hx rfl (hb hby at_89) rfl ?_
        refine XS.bipush X0.here hx rfl (hb hby at_91) ?_
        refine XS.iushr X0.here hx rfl (hb hby at_93) rfl ?_
        refine XS.sipush X0.here hx rfl (hb hby at_94) ?_
        refine XS.iand X0.here hx rfl (hb hby at_97) rfl ?_
        refine XS.i2c X0.here hx rfl (hb hby at_98) rfl ?_
        exact k)
      have hqc118 : c115 = c118 := hc115.trans hc118.symm
      subst hqc118
      obtain ⟨c119, hc119⟩ : ∃ z : Int32, z = ((((qa.toUInt32 >>> ((16 : Int32) &&& 31).toUInt32).toInt32) &&& (255 : Int32)).toUInt32.toUInt16.toUInt32.toInt32) := ⟨_, rfl⟩
      refine own_to (V := s₁.setTop (mkF m 111 #[.val (.int qa), .val (.int qb), .val (.int ql), .val (.int qr), .val (.int qs), .val (.int qm), .val (.int x101), .val (.int x103), .val (.int qa), .val (.int c114), .val (.int c115), .val (.int c116), .val (.int c114), .val (.int c115), .unset, .unset, .unset, .unset, .unset, .unset, .unset, .unset, .unset, .unset] [(.int c119)])) ?_ fun t k => (by
        first | rw [hc119] at k | skip
        refine XS.istore X0.here hx rfl (hb hby at_99) rfl (l' := #[.val (.int qa), .val (.int qb), .val (.int ql), .val (.int qr), .val (.int qs), .val (.int qm), .val (.int x101), .val (.int x103), .val (.int qa), .val (.int c114), .val (.int c115), .val (.int c116), .val (.int c114), .val (.int c115), .unset, .unset, .unset, .unset, .unset, .unset, .unset, .unset, .unset, .unset]) rfl ?_
        refine XS.iload X0.here hx rfl (hb hby at_101) rfl ?_
        refine XS.bipush X0.here hx rfl (hb hby at_103) ?_
        refine XS.iushr X0.here hx rfl (hb hby at_105) rfl ?_
        refine XS.sipush X0.here hx rfl (hb hby at_106) ?_
        refine XS.iand X0.here hx rfl (hb hby at_109) rfl ?_
        refine XS.i2c X0.here hx rfl (hb hby at_110) rfl ?_
        exact k)
      have hqc119 : c116 = c119 := hc116.trans hc119.symm
      subst hqc119
      refine own_to (V := s₁.setTop (mkF m 114 #[.val (.int qa), .val (.int qb), .val (.int ql), .val (.int qr), .val (.int qs), .val (.int qm), .val (.int x101), .val (.int x103), .val (.int qa), .val (.int c114), .val (.int c115), .val (.int c116), .val (.int c114), .val (.int c115), .val (.int c116), .unset, .unset, .unset, .unset, .unset, .unset, .unset, .unset, .unset] [(.int qr)])) ?_ fun t k => (by
        refine XS.istore X0.here hx rfl (hb hby at_111) rfl (l' := #[.val (.int qa), .val (.int qb), .val (.int ql), .val (.int qr), .val (.int qs), .val (.int qm), .val (.int x101), .val (.int x103), .val (.int qa), .val (.int c114), .val (.int c115), .val (.int c116), .val (.int c114), .val (.int c115), .val (.int c116), .unset, .unset, .unset, .unset, .unset, .unset, .unset, .unset, .unset]) rfl ?_
        refine XS.iloadN X0.here hx rfl (hb hby at_113) rfl ?_
        exact k)
      refine own_to (V := s₁.setTop (mkF m 116 #[.val (.int qa), .val (.int qb), .val (.int ql), .val (.int qr), .val (.int qs), .val (.int qm), .val (.int x101), .val (.int x103), .val (.int qa), .val (.int c114), .val (.int c115), .val (.int c116), .val (.int c114), .val (.int c115), .val (.int c116), .unset, .unset, .unset, .unset, .unset, .unset, .unset, .unset, .unset] [(.int (2147483647 : Int32)), (.int qr)])) ?_ (fun t k => X0.ldcInt hx hown (mvT hZ (hw _ (List.mem_of_getElem? (i := 0) rfl))) (g := (mkF m 114 #[.val (.int qa), .val (.int qb), .val (.int ql), .val (.int qr), .val (.int qs), .val (.int qm), .val (.int x101), .val (.int x103), .val (.int qa), .val (.int c114), .val (.int c115), .val (.int c116), .val (.int c114), .val (.int c115), .val (.int c116), .unset, .unset, .unset, .unset, .unset, .unset, .unset, .unset, .unset] [(.int qr)])) rfl (hb hby at_114) t k)
      obtain ⟨x120, hx120⟩ : ∃ z : Int32, z = ((qr &&& (2147483647 : Int32)) % (6 : Int32)) := ⟨_, rfl⟩
      refine own_to (V := s₁.setTop (mkF m 122 #[.val (.int qa), .val (.int qb), .val (.int ql), .val (.int qr), .val (.int qs), .val (.int qm), .val (.int x101), .val (.int x103), .val (.int qa), .val (.int c114), .val (.int c115), .val (.int c116), .val (.int c114), .val (.int c115), .val (.int c116), .val (.int x120), .unset, .unset, .unset, .unset, .unset, .unset, .unset, .unset] [])) ?_ fun t k => (by
        first | rw [hx120] at k | skip
        refine XS.iand X0.here hx rfl (hb hby at_116) rfl ?_
        refine XS.bipush X0.here hx rfl (hb hby at_117) ?_
        refine own_irem X0.here hx rfl (hb hby at_119) rfl (by decide) ?_
        refine XS.istore X0.here hx rfl (hb hby at_120) rfl (l' := #[.val (.int qa), .val (.int qb), .val (.int ql), .val (.int qr), .val (.int qs), .val (.int qm), .val (.int x101), .val (.int x103), .val (.int qa), .val (.int c114), .val (.int c115), .val (.int c116), .val (.int c114), .val (.int c115), .val (.int c116), .val (.int ((qr &&& (2147483647 : Int32)) % (6 : Int32))), .unset, .unset, .unset, .unset, .unset, .unset, .unset, .unset]) rfl ?_
        exact k)
      refine own_to (V := s₁.setTop (mkF m 127 #[.val (.int qa), .val (.int qb), .val (.int ql), .val (.int qr), .val (.int qs), .val (.int qm), .val (.int x101), .val (.int x103), .val (.int qa), .val (.int c114), .val (.int c115), .val (.int c116), .val (.int c114), .val (.int c115), .val (.int c116), .val (.int x120), .unset, .unset, .unset, .unset, .unset, .unset, .unset, .unset] [(.int (qm &&& (8 : Int32)))])) ?_ fun t k => (by
        refine XS.iload X0.here hx rfl (hb hby at_122) rfl ?_
        refine XS.bipush X0.here hx rfl (hb hby at_124) ?_
        refine XS.iand X0.here hx rfl (hb hby at_126) rfl ?_
        exact k)
      by_cases hc127_121 : (qm &&& (8 : Int32)) = (0 : Int32)
      · skip
        refine own_to (V := s₁.setTop (mkF m 137 #[.val (.int qa), .val (.int qb), .val (.int ql), .val (.int qr), .val (.int qs), .val (.int qm), .val (.int x101), .val (.int x103), .val (.int qa), .val (.int c114), .val (.int c115), .val (.int c116), .val (.int c114), .val (.int c115), .val (.int c116), .val (.int x120), .unset, .unset, .unset, .unset, .unset, .unset, .unset, .unset] [(.int qs)])) ?_ fun t k => (by
          refine XS.ifYes X0.here hx rfl (pc0 := 127) (pc' := 135) rfl (hb hby at_127) rfl ((if0 _ _).trans (teq (hc127_121 : (qm &&& (8 : Int32)) = (0 : Int32))).1) (by decide) (by decide) ?_
          refine XS.iload X0.here hx rfl (hb hby at_135) rfl ?_
          exact k)
        refine own_to (V := s₁.setTop (mkF m 139 #[.val (.int qa), .val (.int qb), .val (.int ql), .val (.int qr), .val (.int qs), .val (.int qm), .val (.int x101), .val (.int x103), .val (.int qa), .val (.int c114), .val (.int c115), .val (.int c116), .val (.int c114), .val (.int c115), .val (.int c116), .val (.int x120), .unset, .unset, .unset, .unset, .unset, .unset, .unset, .unset] [(.int (2147483647 : Int32)), (.int qs)])) ?_ (fun t k => X0.ldcInt hx hown (mvT hZ (hw _ (List.mem_of_getElem? (i := 0) rfl))) (g := (mkF m 137 #[.val (.int qa), .val (.int qb), .val (.int ql), .val (.int qr), .val (.int qs), .val (.int qm), .val (.int x101), .val (.int x103), .val (.int qa), .val (.int c114), .val (.int c115), .val (.int c116), .val (.int c114), .val (.int c115), .val (.int c116), .val (.int x120), .unset, .unset, .unset, .unset, .unset, .unset, .unset, .unset] [(.int qs)])) rfl (hb hby at_137) t k)
        obtain ⟨x122, hx122⟩ : ∃ z : Int32, z = ((qs &&& (2147483647 : Int32)) % (6 : Int32)) := ⟨_, rfl⟩
        refine own_to (V := s₁.setTop (mkF m 145 #[.val (.int qa), .val (.int qb), .val (.int ql), .val (.int qr), .val (.int qs), .val (.int qm), .val (.int x101), .val (.int x103), .val (.int qa), .val (.int c114), .val (.int c115), .val (.int c116), .val (.int c114), .val (.int c115), .val (.int c116), .val (.int x120), .val (.int x122), .unset, .unset, .unset, .unset, .unset, .unset, .unset] [])) ?_ fun t k => (by
          first | rw [hx122] at k | skip
          refine XS.iand X0.here hx rfl (hb hby at_139) rfl ?_
          refine XS.bipush X0.here hx rfl (hb hby at_140) ?_
          refine own_irem X0.here hx rfl (hb hby at_142) rfl (by decide) ?_
          refine XS.istore X0.here hx rfl (hb hby at_143) rfl (l' := #[.val (.int qa), .val (.int qb), .val (.int ql), .val (.int qr), .val (.int qs), .val (.int qm), .val (.int x101), .val (.int x103), .val (.int qa), .val (.int c114), .val (.int c115), .val (.int c116), .val (.int c114), .val (.int c115), .val (.int c116), .val (.int x120), .val (.int ((qs &&& (2147483647 : Int32)) % (6 : Int32))), .unset, .unset, .unset, .unset, .unset, .unset, .unset]) rfl ?_
          exact k)
        exact own_sglaw1 l Z a0 hw hst qa qb ql qr qs qm rA rB rC rD rE h0 n0 x101 x103 qa c114 c115 c116 c114 c115 c116 x120 x122 hx hby hret hlk hml hnm hS0 hZ hown X0 e0 hk0 N0 X00 KK0 hR rb_c114 rb_c115 rb_c116 rb_c114 rb_c115 rb_c116 (by rw [hx101]; exact own_rem3 _) (by rw [hx103]; exact own_rem3 _) (by rw [hx120]; exact own_rem6 _) (by rw [hx122]; exact own_rem6 _)
      · skip
        refine own_to (V := s₁.setTop (mkF m 145 #[.val (.int qa), .val (.int qb), .val (.int ql), .val (.int qr), .val (.int qs), .val (.int qm), .val (.int x101), .val (.int x103), .val (.int qa), .val (.int c114), .val (.int c115), .val (.int c116), .val (.int c114), .val (.int c115), .val (.int c116), .val (.int x120), .val (.int x120), .unset, .unset, .unset, .unset, .unset, .unset, .unset] [])) ?_ fun t k => (by
          refine XS.ifNo X0.here hx rfl (hb hby at_127) rfl ((if0 _ _).trans (feq (hc127_121 : ¬ ((qm &&& (8 : Int32)) = (0 : Int32)))).1) ?_
          refine XS.iload X0.here hx rfl (hb hby at_130) rfl ?_
          refine XS.goto X0.here hx rfl (pc0 := 132) (pc' := 143) rfl (hb hby at_132) (by decide) (by decide) ?_
          refine XS.istore X0.here hx rfl (hb hby at_143) rfl (l' := #[.val (.int qa), .val (.int qb), .val (.int ql), .val (.int qr), .val (.int qs), .val (.int qm), .val (.int x101), .val (.int x103), .val (.int qa), .val (.int c114), .val (.int c115), .val (.int c116), .val (.int c114), .val (.int c115), .val (.int c116), .val (.int x120), .val (.int x120), .unset, .unset, .unset, .unset, .unset, .unset, .unset]) rfl ?_
          exact k)
        exact own_sglaw1 l Z a0 hw hst qa qb ql qr qs qm rA rB rC rD rE h0 n0 x101 x103 qa c114 c115 c116 c114 c115 c116 x120 x120 hx hby hret hlk hml hnm hS0 hZ hown X0 e0 hk0 N0 X00 KK0 hR rb_c114 rb_c115 rb_c116 rb_c114 rb_c115 rb_c116 (by rw [hx101]; exact own_rem3 _) (by rw [hx103]; exact own_rem3 _) (by rw [hx120]; exact own_rem6 _) (by rw [hx120]; exact own_rem6 _)
  · skip
    refine own_to (V := s₁.setTop (mkF m 40 #[.val (.int qa), .val (.int qb), .val (.int ql), .val (.int qr), .val (.int qs), .val (.int qm), .val (.int x101), .val (.int x101), .unset, .unset, .unset, .unset, .unset, .unset, .unset, .unset, .unset, .unset, .unset, .unset, .unset, .unset, .unset, .unset] [(.int (qm &&& (4 : Int32)))])) ?_ fun t k => (by
      refine XS.ifNo X0.here hx rfl (hb hby at_15) rfl ((if0 _ _).trans (feq (hc15_102 : ¬ ((qm &&& (16 : Int32)) = (0 : Int32)))).1) ?_
      refine XS.iload X0.here hx rfl (hb hby at_18) rfl ?_
      refine XS.goto X0.here hx rfl (pc0 := 20) (pc' := 34) rfl (hb hby at_20) (by decide) (by decide) ?_
      refine XS.istore X0.here hx rfl (hb hby at_34) rfl (l' := #[.val (.int qa), .val (.int qb), .val (.int ql), .val (.int qr), .val (.int qs), .val (.int qm), .val (.int x101), .val (.int x101), .unset, .unset, .unset, .unset, .unset, .unset, .unset, .unset, .unset, .unset, .unset, .unset, .unset, .unset, .unset, .unset]) rfl ?_
      refine XS.iload X0.here hx rfl (hb hby at_36) rfl ?_
      refine XS.iconst X0.here hx rfl (hb hby at_38) ?_
      refine XS.iand X0.here hx rfl (hb hby at_39) rfl ?_
      exact k)
    by_cases hc40_123 : (qm &&& (4 : Int32)) = (0 : Int32)
    · skip
      obtain ⟨c124, hc124⟩ : ∃ z : Int32, z = ((qa &&& (255 : Int32)).toUInt32.toUInt16.toUInt32.toInt32) := ⟨_, rfl⟩
      have rc_c124 : ¬ c124 < 0 ∧ ¬ (65535 : Int32) < c124 := by rw [hc124]; exact own_i2c_rng _
      have rb_c124 : ¬ c124 < 0 ∧ ¬ (255 : Int32) < c124 := by rw [hc124]; exact own_and255 _
      refine own_to (V := s₁.setTop (mkF m 56 #[.val (.int qa), .val (.int qb), .val (.int ql), .val (.int qr), .val (.int qs), .val (.int qm), .val (.int x101), .val (.int x101), .val (.int qb), .unset, .unset, .unset, .unset, .unset, .unset, .unset, .unset, .unset, .unset, .unset, .unset, .unset, .unset, .unset] [(.int c124)])) ?_ fun t k => (by
        first | rw [hc124] at k | skip
        refine XS.ifYes X0.here hx rfl (pc0 := 40) (pc' := 47) rfl (hb hby at_40) rfl ((if0 _ _).trans (teq (hc40_123 : (qm &&& (4 : Int32)) = (0 : Int32))).1) (by decide) (by decide) ?_
        refine XS.iloadN X0.here hx rfl (hb hby at_47) rfl ?_
        refine XS.istore X0.here hx rfl (hb hby at_48) rfl (l' := #[.val (.int qa), .val (.int qb), .val (.int ql), .val (.int qr), .val (.int qs), .val (.int qm), .val (.int x101), .val (.int x101), .val (.int qb), .unset, .unset, .unset, .unset, .unset, .unset, .unset, .unset, .unset, .unset, .unset, .unset, .unset, .unset, .unset]) rfl ?_
        refine XS.iloadN X0.here hx rfl (hb hby at_50) rfl ?_
        refine XS.sipush X0.here hx rfl (hb hby at_51) ?_
        refine XS.iand X0.here hx rfl (hb hby at_54) rfl ?_
        refine XS.i2c X0.here hx rfl (hb hby at_55) rfl ?_
        exact k)
      obtain ⟨c125, hc125⟩ : ∃ z : Int32, z = ((((qa.toUInt32 >>> ((8 : Int32) &&& 31).toUInt32).toInt32) &&& (255 : Int32)).toUInt32.toUInt16.toUInt32.toInt32) := ⟨_, rfl⟩
      have rc_c125 : ¬ c125 < 0 ∧ ¬ (65535 : Int32) < c125 := by rw [hc125]; exact own_i2c_rng _
      have rb_c125 : ¬ c125 < 0 ∧ ¬ (255 : Int32) < c125 := by rw [hc125]; exact own_and255 _
      refine own_to (V := s₁.setTop (mkF m 67 #[.val (.int qa), .val (.int qb), .val (.int ql), .val (.int qr), .val (.int qs), .val (.int qm), .val (.int x101), .val (.int x101), .val (.int qb), .val (.int c124), .unset, .unset, .unset, .unset, .unset, .unset, .unset, .unset, .unset, .unset, .unset, .unset, .unset, .unset] [(.int c125)])) ?_ fun t k => (by
        first | rw [hc125] at k | skip
        refine XS.istore X0.here hx rfl (hb hby at_56) rfl (l' := #[.val (.int qa), .val (.int qb), .val (.int ql), .val (.int qr), .val (.int qs), .val (.int qm), .val (.int x101), .val (.int x101), .val (.int qb), .val (.int c124), .unset, .unset, .unset, .unset, .unset, .unset, .unset, .unset, .unset, .unset, .unset, .unset, .unset, .unset]) rfl ?_
        refine XS.iloadN X0.here hx rfl (hb hby at_58) rfl ?_
        refine XS.bipush X0.here hx rfl (hb hby at_59) ?_
        refine XS.iushr X0.here hx rfl (hb hby at_61) rfl ?_
        refine XS.sipush X0.here hx rfl (hb hby at_62) ?_
        refine XS.iand X0.here hx rfl (hb hby at_65) rfl ?_
        refine XS.i2c X0.here hx rfl (hb hby at_66) rfl ?_
        exact k)
      obtain ⟨c126, hc126⟩ : ∃ z : Int32, z = ((((qa.toUInt32 >>> ((16 : Int32) &&& 31).toUInt32).toInt32) &&& (255 : Int32)).toUInt32.toUInt16.toUInt32.toInt32) := ⟨_, rfl⟩
      have rc_c126 : ¬ c126 < 0 ∧ ¬ (65535 : Int32) < c126 := by rw [hc126]; exact own_i2c_rng _
      have rb_c126 : ¬ c126 < 0 ∧ ¬ (255 : Int32) < c126 := by rw [hc126]; exact own_and255 _
      refine own_to (V := s₁.setTop (mkF m 78 #[.val (.int qa), .val (.int qb), .val (.int ql), .val (.int qr), .val (.int qs), .val (.int qm), .val (.int x101), .val (.int x101), .val (.int qb), .val (.int c124), .val (.int c125), .unset, .unset, .unset, .unset, .unset, .unset, .unset, .unset, .unset, .unset, .unset, .unset, .unset] [(.int c126)])) ?_ fun t k => (by
        first | rw [hc126] at k | skip
        refine XS.istore X0.here hx rfl (hb hby at_67) rfl (l' := #[.val (.int qa), .val (.int qb), .val (.int ql), .val (.int qr), .val (.int qs), .val (.int qm), .val (.int x101), .val (.int x101), .val (.int qb), .val (.int c124), .val (.int c125), .unset, .unset, .unset, .unset, .unset, .unset, .unset, .unset, .unset, .unset, .unset, .unset, .unset]) rfl ?_
        refine XS.iloadN X0.here hx rfl (hb hby at_69) rfl ?_
        refine XS.bipush X0.here hx rfl (hb hby at_70) ?_
        refine XS.iushr X0.here hx rfl (hb hby at_72) rfl ?_
        refine XS.sipush X0.here hx rfl (hb hby at_73) ?_
        refine XS.iand X0.here hx rfl (hb hby at_76) rfl ?_
        refine XS.i2c X0.here hx rfl (hb hby at_77) rfl ?_
        exact k)
      obtain ⟨c127, hc127⟩ : ∃ z : Int32, z = ((qb &&& (255 : Int32)).toUInt32.toUInt16.toUInt32.toInt32) := ⟨_, rfl⟩
      have rc_c127 : ¬ c127 < 0 ∧ ¬ (65535 : Int32) < c127 := by rw [hc127]; exact own_i2c_rng _
      have rb_c127 : ¬ c127 < 0 ∧ ¬ (255 : Int32) < c127 := by rw [hc127]; exact own_and255 _
      refine own_to (V := s₁.setTop (mkF m 87 #[.val (.int qa), .val (.int qb), .val (.int ql), .val (.int qr), .val (.int qs), .val (.int qm), .val (.int x101), .val (.int x101), .val (.int qb), .val (.int c124), .val (.int c125), .val (.int c126), .unset, .unset, .unset, .unset, .unset, .unset, .unset, .unset, .unset, .unset, .unset, .unset] [(.int c127)])) ?_ fun t k => (by
        first | rw [hc127] at k | skip
        refine XS.istore X0.here hx rfl (hb hby at_78) rfl (l' := #[.val (.int qa), .val (.int qb), .val (.int ql), .val (.int qr), .val (.int qs), .val (.int qm), .val (.int x101), .val (.int x101), .val (.int qb), .val (.int c124), .val (.int c125), .val (.int c126), .unset, .unset, .unset, .unset, .unset, .unset, .unset, .unset, .unset, .unset, .unset, .unset]) rfl ?_
        refine XS.iload X0.here hx rfl (hb hby at_80) rfl ?_
        refine XS.sipush X0.here hx rfl (hb hby at_82) ?_
        refine XS.iand X0.here hx rfl (hb hby at_85) rfl ?_
        refine XS.i2c X0.here hx rfl (hb hby at_86) rfl ?_
        exact k)
      obtain ⟨c128, hc128⟩ : ∃ z : Int32, z = ((((qb.toUInt32 >>> ((8 : Int32) &&& 31).toUInt32).toInt32) &&& (255 : Int32)).toUInt32.toUInt16.toUInt32.toInt32) := ⟨_, rfl⟩
      have rc_c128 : ¬ c128 < 0 ∧ ¬ (65535 : Int32) < c128 := by rw [hc128]; exact own_i2c_rng _
      have rb_c128 : ¬ c128 < 0 ∧ ¬ (255 : Int32) < c128 := by rw [hc128]; exact own_and255 _
      refine own_to (V := s₁.setTop (mkF m 99 #[.val (.int qa), .val (.int qb), .val (.int ql), .val (.int qr), .val (.int qs), .val (.int qm), .val (.int x101), .val (.int x101), .val (.int qb), .val (.int c124), .val (.int c125), .val (.int c126), .val (.int c127), .unset, .unset, .unset, .unset, .unset, .unset, .unset, .unset, .unset, .unset, .unset] [(.int c128)])) ?_ fun t k => (by
        first | rw [hc128] at k | skip
        refine XS.istore X0.here hx rfl (hb hby at_87) rfl (l' := #[.val (.int qa), .val (.int qb), .val (.int ql), .val (.int qr), .val (.int qs), .val (.int qm), .val (.int x101), .val (.int x101), .val (.int qb), .val (.int c124), .val (.int c125), .val (.int c126), .val (.int c127), .unset, .unset, .unset, .unset, .unset, .unset, .unset, .unset, .unset, .unset, .unset]) rfl ?_
        refine XS.iload X0.here hx rfl (hb hby at_89) rfl ?_
        refine XS.bipush X0.here hx rfl (hb hby at_91) ?_
        refine XS.iushr X0.here hx rfl (hb hby at_93) rfl ?_
        refine XS.sipush X0.here hx rfl (hb hby at_94) ?_
        refine XS.iand X0.here hx rfl (hb hby at_97) rfl ?_
        refine XS.i2c X0.here hx rfl (hb hby at_98) rfl ?_
        exact k)
      obtain ⟨c129, hc129⟩ : ∃ z : Int32, z = ((((qb.toUInt32 >>> ((16 : Int32) &&& 31).toUInt32).toInt32) &&& (255 : Int32)).toUInt32.toUInt16.toUInt32.toInt32) := ⟨_, rfl⟩
      have rc_c129 : ¬ c129 < 0 ∧ ¬ (65535 : Int32) < c129 := by rw [hc129]; exact own_i2c_rng _
      have rb_c129 : ¬ c129 < 0 ∧ ¬ (255 : Int32) < c129 := by rw [hc129]; exact own_and255 _
      refine own_to (V := s₁.setTop (mkF m 111 #[.val (.int qa), .val (.int qb), .val (.int ql), .val (.int qr), .val (.int qs), .val (.int qm), .val (.int x101), .val (.int x101), .val (.int qb), .val (.int c124), .val (.int c125), .val (.int c126), .val (.int c127), .val (.int c128), .unset, .unset, .unset, .unset, .unset, .unset, .unset, .unset, .unset, .unset] [(.int c129)])) ?_ fun t k => (by
        first | rw [hc129] at k | skip
        refine XS.istore X0.here hx rfl (hb hby at_99) rfl (l' := #[.val (.int qa), .val (.int qb), .val (.int ql), .val (.int qr), .val (.int qs), .val (.int qm), .val (.int x101), .val (.int x101), .val (.int qb), .val (.int c124), .val (.int c125), .val (.int c126), .val (.int c127), .val (.int c128), .unset, .unset, .unset, .unset, .unset, .unset, .unset, .unset, .unset, .unset]) rfl ?_
        refine XS.iload X0.here hx rfl (hb hby at_101) rfl ?_
        refine XS.bipush X0.here hx rfl (hb hby at_103) ?_
        refine XS.iushr X0.here hx rfl (hb hby at_105) rfl ?_
        refine XS.sipush X0.here hx rfl (hb hby at_106) ?_
        refine XS.iand X0.here hx rfl (hb hby at_109) rfl ?_
        refine XS.i2c X0.here hx rfl (hb hby at_110) rfl ?_
        exact k)
      refine own_to (V := s₁.setTop (mkF m 114 #[.val (.int qa), .val (.int qb), .val (.int ql), .val (.int qr), .val (.int qs), .val (.int qm), .val (.int x101), .val (.int x101), .val (.int qb), .val (.int c124), .val (.int c125), .val (.int c126), .val (.int c127), .val (.int c128), .val (.int c129), .unset, .unset, .unset, .unset, .unset, .unset, .unset, .unset, .unset] [(.int qr)])) ?_ fun t k => (by
        refine XS.istore X0.here hx rfl (hb hby at_111) rfl (l' := #[.val (.int qa), .val (.int qb), .val (.int ql), .val (.int qr), .val (.int qs), .val (.int qm), .val (.int x101), .val (.int x101), .val (.int qb), .val (.int c124), .val (.int c125), .val (.int c126), .val (.int c127), .val (.int c128), .val (.int c129), .unset, .unset, .unset, .unset, .unset, .unset, .unset, .unset, .unset]) rfl ?_
        refine XS.iloadN X0.here hx rfl (hb hby at_113) rfl ?_
        exact k)
      refine own_to (V := s₁.setTop (mkF m 116 #[.val (.int qa), .val (.int qb), .val (.int ql), .val (.int qr), .val (.int qs), .val (.int qm), .val (.int x101), .val (.int x101), .val (.int qb), .val (.int c124), .val (.int c125), .val (.int c126), .val (.int c127), .val (.int c128), .val (.int c129), .unset, .unset, .unset, .unset, .unset, .unset, .unset, .unset, .unset] [(.int (2147483647 : Int32)), (.int qr)])) ?_ (fun t k => X0.ldcInt hx hown (mvT hZ (hw _ (List.mem_of_getElem? (i := 0) rfl))) (g := (mkF m 114 #[.val (.int qa), .val (.int qb), .val (.int ql), .val (.int qr), .val (.int qs), .val (.int qm), .val (.int x101), .val (.int x101), .val (.int qb), .val (.int c124), .val (.int c125), .val (.int c126), .val (.int c127), .val (.int c128), .val (.int c129), .unset, .unset, .unset, .unset, .unset, .unset, .unset, .unset, .unset] [(.int qr)])) rfl (hb hby at_114) t k)
      obtain ⟨x130, hx130⟩ : ∃ z : Int32, z = ((qr &&& (2147483647 : Int32)) % (6 : Int32)) := ⟨_, rfl⟩
      refine own_to (V := s₁.setTop (mkF m 122 #[.val (.int qa), .val (.int qb), .val (.int ql), .val (.int qr), .val (.int qs), .val (.int qm), .val (.int x101), .val (.int x101), .val (.int qb), .val (.int c124), .val (.int c125), .val (.int c126), .val (.int c127), .val (.int c128), .val (.int c129), .val (.int x130), .unset, .unset, .unset, .unset, .unset, .unset, .unset, .unset] [])) ?_ fun t k => (by
        first | rw [hx130] at k | skip
        refine XS.iand X0.here hx rfl (hb hby at_116) rfl ?_
        refine XS.bipush X0.here hx rfl (hb hby at_117) ?_
        refine own_irem X0.here hx rfl (hb hby at_119) rfl (by decide) ?_
        refine XS.istore X0.here hx rfl (hb hby at_120) rfl (l' := #[.val (.int qa), .val (.int qb), .val (.int ql), .val (.int qr), .val (.int qs), .val (.int qm), .val (.int x101), .val (.int x101), .val (.int qb), .val (.int c124), .val (.int c125), .val (.int c126), .val (.int c127), .val (.int c128), .val (.int c129), .val (.int ((qr &&& (2147483647 : Int32)) % (6 : Int32))), .unset, .unset, .unset, .unset, .unset, .unset, .unset, .unset]) rfl ?_
        exact k)
      refine own_to (V := s₁.setTop (mkF m 127 #[.val (.int qa), .val (.int qb), .val (.int ql), .val (.int qr), .val (.int qs), .val (.int qm), .val (.int x101), .val (.int x101), .val (.int qb), .val (.int c124), .val (.int c125), .val (.int c126), .val (.int c127), .val (.int c128), .val (.int c129), .val (.int x130), .unset, .unset, .unset, .unset, .unset, .unset, .unset, .unset] [(.int (qm &&& (8 : Int32)))])) ?_ fun t k => (by
        refine XS.iload X0.here hx rfl (hb hby at_122) rfl ?_
        refine XS.bipush X0.here hx rfl (hb hby at_124) ?_
        refine XS.iand X0.here hx rfl (hb hby at_126) rfl ?_
        exact k)
      by_cases hc127_131 : (qm &&& (8 : Int32)) = (0 : Int32)
      · skip
        refine own_to (V := s₁.setTop (mkF m 137 #[.val (.int qa), .val (.int qb), .val (.int ql), .val (.int qr), .val (.int qs), .val (.int qm), .val (.int x101), .val (.int x101), .val (.int qb), .val (.int c124), .val (.int c125), .val (.int c126), .val (.int c127), .val (.int c128), .val (.int c129), .val (.int x130), .unset, .unset, .unset, .unset, .unset, .unset, .unset, .unset] [(.int qs)])) ?_ fun t k => (by
          refine XS.ifYes X0.here hx rfl (pc0 := 127) (pc' := 135) rfl (hb hby at_127) rfl ((if0 _ _).trans (teq (hc127_131 : (qm &&& (8 : Int32)) = (0 : Int32))).1) (by decide) (by decide) ?_
          refine XS.iload X0.here hx rfl (hb hby at_135) rfl ?_
          exact k)
        refine own_to (V := s₁.setTop (mkF m 139 #[.val (.int qa), .val (.int qb), .val (.int ql), .val (.int qr), .val (.int qs), .val (.int qm), .val (.int x101), .val (.int x101), .val (.int qb), .val (.int c124), .val (.int c125), .val (.int c126), .val (.int c127), .val (.int c128), .val (.int c129), .val (.int x130), .unset, .unset, .unset, .unset, .unset, .unset, .unset, .unset] [(.int (2147483647 : Int32)), (.int qs)])) ?_ (fun t k => X0.ldcInt hx hown (mvT hZ (hw _ (List.mem_of_getElem? (i := 0) rfl))) (g := (mkF m 137 #[.val (.int qa), .val (.int qb), .val (.int ql), .val (.int qr), .val (.int qs), .val (.int qm), .val (.int x101), .val (.int x101), .val (.int qb), .val (.int c124), .val (.int c125), .val (.int c126), .val (.int c127), .val (.int c128), .val (.int c129), .val (.int x130), .unset, .unset, .unset, .unset, .unset, .unset, .unset, .unset] [(.int qs)])) rfl (hb hby at_137) t k)
        obtain ⟨x132, hx132⟩ : ∃ z : Int32, z = ((qs &&& (2147483647 : Int32)) % (6 : Int32)) := ⟨_, rfl⟩
        refine own_to (V := s₁.setTop (mkF m 145 #[.val (.int qa), .val (.int qb), .val (.int ql), .val (.int qr), .val (.int qs), .val (.int qm), .val (.int x101), .val (.int x101), .val (.int qb), .val (.int c124), .val (.int c125), .val (.int c126), .val (.int c127), .val (.int c128), .val (.int c129), .val (.int x130), .val (.int x132), .unset, .unset, .unset, .unset, .unset, .unset, .unset] [])) ?_ fun t k => (by
          first | rw [hx132] at k | skip
          refine XS.iand X0.here hx rfl (hb hby at_139) rfl ?_
          refine XS.bipush X0.here hx rfl (hb hby at_140) ?_
          refine own_irem X0.here hx rfl (hb hby at_142) rfl (by decide) ?_
          refine XS.istore X0.here hx rfl (hb hby at_143) rfl (l' := #[.val (.int qa), .val (.int qb), .val (.int ql), .val (.int qr), .val (.int qs), .val (.int qm), .val (.int x101), .val (.int x101), .val (.int qb), .val (.int c124), .val (.int c125), .val (.int c126), .val (.int c127), .val (.int c128), .val (.int c129), .val (.int x130), .val (.int ((qs &&& (2147483647 : Int32)) % (6 : Int32))), .unset, .unset, .unset, .unset, .unset, .unset, .unset]) rfl ?_
          exact k)
        exact own_sglaw1 l Z a0 hw hst qa qb ql qr qs qm rA rB rC rD rE h0 n0 x101 x101 qb c124 c125 c126 c127 c128 c129 x130 x132 hx hby hret hlk hml hnm hS0 hZ hown X0 e0 hk0 N0 X00 KK0 hR rb_c124 rb_c125 rb_c126 rb_c127 rb_c128 rb_c129 (by rw [hx101]; exact own_rem3 _) (by rw [hx101]; exact own_rem3 _) (by rw [hx130]; exact own_rem6 _) (by rw [hx132]; exact own_rem6 _)
      · skip
        refine own_to (V := s₁.setTop (mkF m 145 #[.val (.int qa), .val (.int qb), .val (.int ql), .val (.int qr), .val (.int qs), .val (.int qm), .val (.int x101), .val (.int x101), .val (.int qb), .val (.int c124), .val (.int c125), .val (.int c126), .val (.int c127), .val (.int c128), .val (.int c129), .val (.int x130), .val (.int x130), .unset, .unset, .unset, .unset, .unset, .unset, .unset] [])) ?_ fun t k => (by
          refine XS.ifNo X0.here hx rfl (hb hby at_127) rfl ((if0 _ _).trans (feq (hc127_131 : ¬ ((qm &&& (8 : Int32)) = (0 : Int32)))).1) ?_
          refine XS.iload X0.here hx rfl (hb hby at_130) rfl ?_
          refine XS.goto X0.here hx rfl (pc0 := 132) (pc' := 143) rfl (hb hby at_132) (by decide) (by decide) ?_
          refine XS.istore X0.here hx rfl (hb hby at_143) rfl (l' := #[.val (.int qa), .val (.int qb), .val (.int ql), .val (.int qr), .val (.int qs), .val (.int qm), .val (.int x101), .val (.int x101), .val (.int qb), .val (.int c124), .val (.int c125), .val (.int c126), .val (.int c127), .val (.int c128), .val (.int c129), .val (.int x130), .val (.int x130), .unset, .unset, .unset, .unset, .unset, .unset, .unset]) rfl ?_
          exact k)
        exact own_sglaw1 l Z a0 hw hst qa qb ql qr qs qm rA rB rC rD rE h0 n0 x101 x101 qb c124 c125 c126 c127 c128 c129 x130 x130 hx hby hret hlk hml hnm hS0 hZ hown X0 e0 hk0 N0 X00 KK0 hR rb_c124 rb_c125 rb_c126 rb_c127 rb_c128 rb_c129 (by rw [hx101]; exact own_rem3 _) (by rw [hx101]; exact own_rem3 _) (by rw [hx130]; exact own_rem6 _) (by rw [hx130]; exact own_rem6 _)
    · skip
      obtain ⟨c133, hc133⟩ : ∃ z : Int32, z = ((qa &&& (255 : Int32)).toUInt32.toUInt16.toUInt32.toInt32) := ⟨_, rfl⟩
      have rc_c133 : ¬ c133 < 0 ∧ ¬ (65535 : Int32) < c133 := by rw [hc133]; exact own_i2c_rng _
      have rb_c133 : ¬ c133 < 0 ∧ ¬ (255 : Int32) < c133 := by rw [hc133]; exact own_and255 _
      refine own_to (V := s₁.setTop (mkF m 56 #[.val (.int qa), .val (.int qb), .val (.int ql), .val (.int qr), .val (.int qs), .val (.int qm), .val (.int x101), .val (.int x101), .val (.int qa), .unset, .unset, .unset, .unset, .unset, .unset, .unset, .unset, .unset, .unset, .unset, .unset, .unset, .unset, .unset] [(.int c133)])) ?_ fun t k => (by
        first | rw [hc133] at k | skip
        refine XS.ifNo X0.here hx rfl (hb hby at_40) rfl ((if0 _ _).trans (feq (hc40_123 : ¬ ((qm &&& (4 : Int32)) = (0 : Int32)))).1) ?_
        refine XS.iloadN X0.here hx rfl (hb hby at_43) rfl ?_
        refine XS.goto X0.here hx rfl (pc0 := 44) (pc' := 48) rfl (hb hby at_44) (by decide) (by decide) ?_
        refine XS.istore X0.here hx rfl (hb hby at_48) rfl (l' := #[.val (.int qa), .val (.int qb), .val (.int ql), .val (.int qr), .val (.int qs), .val (.int qm), .val (.int x101), .val (.int x101), .val (.int qa), .unset, .unset, .unset, .unset, .unset, .unset, .unset, .unset, .unset, .unset, .unset, .unset, .unset, .unset, .unset]) rfl ?_
        refine XS.iloadN X0.here hx rfl (hb hby at_50) rfl ?_
        refine XS.sipush X0.here hx rfl (hb hby at_51) ?_
        refine XS.iand X0.here hx rfl (hb hby at_54) rfl ?_
        refine XS.i2c X0.here hx rfl (hb hby at_55) rfl ?_
        exact k)
      obtain ⟨c134, hc134⟩ : ∃ z : Int32, z = ((((qa.toUInt32 >>> ((8 : Int32) &&& 31).toUInt32).toInt32) &&& (255 : Int32)).toUInt32.toUInt16.toUInt32.toInt32) := ⟨_, rfl⟩
      have rc_c134 : ¬ c134 < 0 ∧ ¬ (65535 : Int32) < c134 := by rw [hc134]; exact own_i2c_rng _
      have rb_c134 : ¬ c134 < 0 ∧ ¬ (255 : Int32) < c134 := by rw [hc134]; exact own_and255 _
      refine own_to (V := s₁.setTop (mkF m 67 #[.val (.int qa), .val (.int qb), .val (.int ql), .val (.int qr), .val (.int qs), .val (.int qm), .val (.int x101), .val (.int x101), .val (.int qa), .val (.int c133), .unset, .unset, .unset, .unset, .unset, .unset, .unset, .unset, .unset, .unset, .unset, .unset, .unset, .unset] [(.int c134)])) ?_ fun t k => (by
        first | rw [hc134] at k | skip
        refine XS.istore X0.here hx rfl (hb hby at_56) rfl (l' := #[.val (.int qa), .val (.int qb), .val (.int ql), .val (.int qr), .val (.int qs), .val (.int qm), .val (.int x101), .val (.int x101), .val (.int qa), .val (.int c133), .unset, .unset, .unset, .unset, .unset, .unset, .unset, .unset, .unset, .unset, .unset, .unset, .unset, .unset]) rfl ?_
        refine XS.iloadN X0.here hx rfl (hb hby at_58) rfl ?_
        refine XS.bipush X0.here hx rfl (hb hby at_59) ?_
        refine XS.iushr X0.here hx rfl (hb hby at_61) rfl ?_
        refine XS.sipush X0.here hx rfl (hb hby at_62) ?_
        refine XS.iand X0.here hx rfl (hb hby at_65) rfl ?_
        refine XS.i2c X0.here hx rfl (hb hby at_66) rfl ?_
        exact k)
      obtain ⟨c135, hc135⟩ : ∃ z : Int32, z = ((((qa.toUInt32 >>> ((16 : Int32) &&& 31).toUInt32).toInt32) &&& (255 : Int32)).toUInt32.toUInt16.toUInt32.toInt32) := ⟨_, rfl⟩
      have rc_c135 : ¬ c135 < 0 ∧ ¬ (65535 : Int32) < c135 := by rw [hc135]; exact own_i2c_rng _
      have rb_c135 : ¬ c135 < 0 ∧ ¬ (255 : Int32) < c135 := by rw [hc135]; exact own_and255 _
      refine own_to (V := s₁.setTop (mkF m 78 #[.val (.int qa), .val (.int qb), .val (.int ql), .val (.int qr), .val (.int qs), .val (.int qm), .val (.int x101), .val (.int x101), .val (.int qa), .val (.int c133), .val (.int c134), .unset, .unset, .unset, .unset, .unset, .unset, .unset, .unset, .unset, .unset, .unset, .unset, .unset] [(.int c135)])) ?_ fun t k => (by
        first | rw [hc135] at k | skip
        refine XS.istore X0.here hx rfl (hb hby at_67) rfl (l' := #[.val (.int qa), .val (.int qb), .val (.int ql), .val (.int qr), .val (.int qs), .val (.int qm), .val (.int x101), .val (.int x101), .val (.int qa), .val (.int c133), .val (.int c134), .unset, .unset, .unset, .unset, .unset, .unset, .unset, .unset, .unset, .unset, .unset, .unset, .unset]) rfl ?_
        refine XS.iloadN X0.here hx rfl (hb hby at_69) rfl ?_
        refine XS.bipush X0.here hx rfl (hb hby at_70) ?_
        refine XS.iushr X0.here hx rfl (hb hby at_72) rfl ?_
        refine XS.sipush X0.here hx rfl (hb hby at_73) ?_
        refine XS.iand X0.here hx rfl (hb hby at_76) rfl ?_
        refine XS.i2c X0.here hx rfl (hb hby at_77) rfl ?_
        exact k)
      obtain ⟨c136, hc136⟩ : ∃ z : Int32, z = ((qa &&& (255 : Int32)).toUInt32.toUInt16.toUInt32.toInt32) := ⟨_, rfl⟩
      refine own_to (V := s₁.setTop (mkF m 87 #[.val (.int qa), .val (.int qb), .val (.int ql), .val (.int qr), .val (.int qs), .val (.int qm), .val (.int x101), .val (.int x101), .val (.int qa), .val (.int c133), .val (.int c134), .val (.int c135), .unset, .unset, .unset, .unset, .unset, .unset, .unset, .unset, .unset, .unset, .unset, .unset] [(.int c136)])) ?_ fun t k => (by
        first | rw [hc136] at k | skip
        refine XS.istore X0.here hx rfl (hb hby at_78) rfl (l' := #[.val (.int qa), .val (.int qb), .val (.int ql), .val (.int qr), .val (.int qs), .val (.int qm), .val (.int x101), .val (.int x101), .val (.int qa), .val (.int c133), .val (.int c134), .val (.int c135), .unset, .unset, .unset, .unset, .unset, .unset, .unset, .unset, .unset, .unset, .unset, .unset]) rfl ?_
        refine XS.iload X0.here hx rfl (hb hby at_80) rfl ?_
        refine XS.sipush X0.here hx rfl (hb hby at_82) ?_
        refine XS.iand X0.here hx rfl (hb hby at_85) rfl ?_
        refine XS.i2c X0.here hx rfl (hb hby at_86) rfl ?_
        exact k)
      have hqc136 : c133 = c136 := hc133.trans hc136.symm
      subst hqc136
      obtain ⟨c137, hc137⟩ : ∃ z : Int32, z = ((((qa.toUInt32 >>> ((8 : Int32) &&& 31).toUInt32).toInt32) &&& (255 : Int32)).toUInt32.toUInt16.toUInt32.toInt32) := ⟨_, rfl⟩
      refine own_to (V := s₁.setTop (mkF m 99 #[.val (.int qa), .val (.int qb), .val (.int ql), .val (.int qr), .val (.int qs), .val (.int qm), .val (.int x101), .val (.int x101), .val (.int qa), .val (.int c133), .val (.int c134), .val (.int c135), .val (.int c133), .unset, .unset, .unset, .unset, .unset, .unset, .unset, .unset, .unset, .unset, .unset] [(.int c137)])) ?_ fun t k => (by
        first | rw [hc137] at k | skip
        refine XS.istore X0.here hx rfl (hb hby at_87) rfl (l' := #[.val (.int qa), .val (.int qb), .val (.int ql), .val (.int qr), .val (.int qs), .val (.int qm), .val (.int x101), .val (.int x101), .val (.int qa), .val (.int c133), .val (.int c134), .val (.int c135), .val (.int c133), .unset, .unset, .unset, .unset, .unset, .unset, .unset, .unset, .unset, .unset, .unset]) rfl ?_
        refine XS.iload X0.here hx rfl (hb hby at_89) rfl ?_
        refine XS.bipush X0.here hx rfl (hb hby at_91) ?_
        refine XS.iushr X0.here hx rfl (hb hby at_93) rfl ?_
        refine XS.sipush X0.here hx rfl (hb hby at_94) ?_
        refine XS.iand X0.here hx rfl (hb hby at_97) rfl ?_
        refine XS.i2c X0.here hx rfl (hb hby at_98) rfl ?_
        exact k)
      have hqc137 : c134 = c137 := hc134.trans hc137.symm
      subst hqc137
      obtain ⟨c138, hc138⟩ : ∃ z : Int32, z = ((((qa.toUInt32 >>> ((16 : Int32) &&& 31).toUInt32).toInt32) &&& (255 : Int32)).toUInt32.toUInt16.toUInt32.toInt32) := ⟨_, rfl⟩
      refine own_to (V := s₁.setTop (mkF m 111 #[.val (.int qa), .val (.int qb), .val (.int ql), .val (.int qr), .val (.int qs), .val (.int qm), .val (.int x101), .val (.int x101), .val (.int qa), .val (.int c133), .val (.int c134), .val (.int c135), .val (.int c133), .val (.int c134), .unset, .unset, .unset, .unset, .unset, .unset, .unset, .unset, .unset, .unset] [(.int c138)])) ?_ fun t k => (by
        first | rw [hc138] at k | skip
        refine XS.istore X0.here hx rfl (hb hby at_99) rfl (l' := #[.val (.int qa), .val (.int qb), .val (.int ql), .val (.int qr), .val (.int qs), .val (.int qm), .val (.int x101), .val (.int x101), .val (.int qa), .val (.int c133), .val (.int c134), .val (.int c135), .val (.int c133), .val (.int c134), .unset, .unset, .unset, .unset, .unset, .unset, .unset, .unset, .unset, .unset]) rfl ?_
        refine XS.iload X0.here hx rfl (hb hby at_101) rfl ?_
        refine XS.bipush X0.here hx rfl (hb hby at_103) ?_
        refine XS.iushr X0.here hx rfl (hb hby at_105) rfl ?_
        refine XS.sipush X0.here hx rfl (hb hby at_106) ?_
        refine XS.iand X0.here hx rfl (hb hby at_109) rfl ?_
        refine XS.i2c X0.here hx rfl (hb hby at_110) rfl ?_
        exact k)
      have hqc138 : c135 = c138 := hc135.trans hc138.symm
      subst hqc138
      refine own_to (V := s₁.setTop (mkF m 114 #[.val (.int qa), .val (.int qb), .val (.int ql), .val (.int qr), .val (.int qs), .val (.int qm), .val (.int x101), .val (.int x101), .val (.int qa), .val (.int c133), .val (.int c134), .val (.int c135), .val (.int c133), .val (.int c134), .val (.int c135), .unset, .unset, .unset, .unset, .unset, .unset, .unset, .unset, .unset] [(.int qr)])) ?_ fun t k => (by
        refine XS.istore X0.here hx rfl (hb hby at_111) rfl (l' := #[.val (.int qa), .val (.int qb), .val (.int ql), .val (.int qr), .val (.int qs), .val (.int qm), .val (.int x101), .val (.int x101), .val (.int qa), .val (.int c133), .val (.int c134), .val (.int c135), .val (.int c133), .val (.int c134), .val (.int c135), .unset, .unset, .unset, .unset, .unset, .unset, .unset, .unset, .unset]) rfl ?_
        refine XS.iloadN X0.here hx rfl (hb hby at_113) rfl ?_
        exact k)
      refine own_to (V := s₁.setTop (mkF m 116 #[.val (.int qa), .val (.int qb), .val (.int ql), .val (.int qr), .val (.int qs), .val (.int qm), .val (.int x101), .val (.int x101), .val (.int qa), .val (.int c133), .val (.int c134), .val (.int c135), .val (.int c133), .val (.int c134), .val (.int c135), .unset, .unset, .unset, .unset, .unset, .unset, .unset, .unset, .unset] [(.int (2147483647 : Int32)), (.int qr)])) ?_ (fun t k => X0.ldcInt hx hown (mvT hZ (hw _ (List.mem_of_getElem? (i := 0) rfl))) (g := (mkF m 114 #[.val (.int qa), .val (.int qb), .val (.int ql), .val (.int qr), .val (.int qs), .val (.int qm), .val (.int x101), .val (.int x101), .val (.int qa), .val (.int c133), .val (.int c134), .val (.int c135), .val (.int c133), .val (.int c134), .val (.int c135), .unset, .unset, .unset, .unset, .unset, .unset, .unset, .unset, .unset] [(.int qr)])) rfl (hb hby at_114) t k)
      obtain ⟨x139, hx139⟩ : ∃ z : Int32, z = ((qr &&& (2147483647 : Int32)) % (6 : Int32)) := ⟨_, rfl⟩
      refine own_to (V := s₁.setTop (mkF m 122 #[.val (.int qa), .val (.int qb), .val (.int ql), .val (.int qr), .val (.int qs), .val (.int qm), .val (.int x101), .val (.int x101), .val (.int qa), .val (.int c133), .val (.int c134), .val (.int c135), .val (.int c133), .val (.int c134), .val (.int c135), .val (.int x139), .unset, .unset, .unset, .unset, .unset, .unset, .unset, .unset] [])) ?_ fun t k => (by
        first | rw [hx139] at k | skip
        refine XS.iand X0.here hx rfl (hb hby at_116) rfl ?_
        refine XS.bipush X0.here hx rfl (hb hby at_117) ?_
        refine own_irem X0.here hx rfl (hb hby at_119) rfl (by decide) ?_
        refine XS.istore X0.here hx rfl (hb hby at_120) rfl (l' := #[.val (.int qa), .val (.int qb), .val (.int ql), .val (.int qr), .val (.int qs), .val (.int qm), .val (.int x101), .val (.int x101), .val (.int qa), .val (.int c133), .val (.int c134), .val (.int c135), .val (.int c133), .val (.int c134), .val (.int c135), .val (.int ((qr &&& (2147483647 : Int32)) % (6 : Int32))), .unset, .unset, .unset, .unset, .unset, .unset, .unset, .unset]) rfl ?_
        exact k)
      refine own_to (V := s₁.setTop (mkF m 127 #[.val (.int qa), .val (.int qb), .val (.int ql), .val (.int qr), .val (.int qs), .val (.int qm), .val (.int x101), .val (.int x101), .val (.int qa), .val (.int c133), .val (.int c134), .val (.int c135), .val (.int c133), .val (.int c134), .val (.int c135), .val (.int x139), .unset, .unset, .unset, .unset, .unset, .unset, .unset, .unset] [(.int (qm &&& (8 : Int32)))])) ?_ fun t k => (by
        refine XS.iload X0.here hx rfl (hb hby at_122) rfl ?_
        refine XS.bipush X0.here hx rfl (hb hby at_124) ?_
        refine XS.iand X0.here hx rfl (hb hby at_126) rfl ?_
        exact k)
      by_cases hc127_140 : (qm &&& (8 : Int32)) = (0 : Int32)
      · skip
        refine own_to (V := s₁.setTop (mkF m 137 #[.val (.int qa), .val (.int qb), .val (.int ql), .val (.int qr), .val (.int qs), .val (.int qm), .val (.int x101), .val (.int x101), .val (.int qa), .val (.int c133), .val (.int c134), .val (.int c135), .val (.int c133), .val (.int c134), .val (.int c135), .val (.int x139), .unset, .unset, .unset, .unset, .unset, .unset, .unset, .unset] [(.int qs)])) ?_ fun t k => (by
          refine XS.ifYes X0.here hx rfl (pc0 := 127) (pc' := 135) rfl (hb hby at_127) rfl ((if0 _ _).trans (teq (hc127_140 : (qm &&& (8 : Int32)) = (0 : Int32))).1) (by decide) (by decide) ?_
          refine XS.iload X0.here hx rfl (hb hby at_135) rfl ?_
          exact k)
        refine own_to (V := s₁.setTop (mkF m 139 #[.val (.int qa), .val (.int qb), .val (.int ql), .val (.int qr), .val (.int qs), .val (.int qm), .val (.int x101), .val (.int x101), .val (.int qa), .val (.int c133), .val (.int c134), .val (.int c135), .val (.int c133), .val (.int c134), .val (.int c135), .val (.int x139), .unset, .unset, .unset, .unset, .unset, .unset, .unset, .unset] [(.int (2147483647 : Int32)), (.int qs)])) ?_ (fun t k => X0.ldcInt hx hown (mvT hZ (hw _ (List.mem_of_getElem? (i := 0) rfl))) (g := (mkF m 137 #[.val (.int qa), .val (.int qb), .val (.int ql), .val (.int qr), .val (.int qs), .val (.int qm), .val (.int x101), .val (.int x101), .val (.int qa), .val (.int c133), .val (.int c134), .val (.int c135), .val (.int c133), .val (.int c134), .val (.int c135), .val (.int x139), .unset, .unset, .unset, .unset, .unset, .unset, .unset, .unset] [(.int qs)])) rfl (hb hby at_137) t k)
        obtain ⟨x141, hx141⟩ : ∃ z : Int32, z = ((qs &&& (2147483647 : Int32)) % (6 : Int32)) := ⟨_, rfl⟩
        refine own_to (V := s₁.setTop (mkF m 145 #[.val (.int qa), .val (.int qb), .val (.int ql), .val (.int qr), .val (.int qs), .val (.int qm), .val (.int x101), .val (.int x101), .val (.int qa), .val (.int c133), .val (.int c134), .val (.int c135), .val (.int c133), .val (.int c134), .val (.int c135), .val (.int x139), .val (.int x141), .unset, .unset, .unset, .unset, .unset, .unset, .unset] [])) ?_ fun t k => (by
          first | rw [hx141] at k | skip
          refine XS.iand X0.here hx rfl (hb hby at_139) rfl ?_
          refine XS.bipush X0.here hx rfl (hb hby at_140) ?_
          refine own_irem X0.here hx rfl (hb hby at_142) rfl (by decide) ?_
          refine XS.istore X0.here hx rfl (hb hby at_143) rfl (l' := #[.val (.int qa), .val (.int qb), .val (.int ql), .val (.int qr), .val (.int qs), .val (.int qm), .val (.int x101), .val (.int x101), .val (.int qa), .val (.int c133), .val (.int c134), .val (.int c135), .val (.int c133), .val (.int c134), .val (.int c135), .val (.int x139), .val (.int ((qs &&& (2147483647 : Int32)) % (6 : Int32))), .unset, .unset, .unset, .unset, .unset, .unset, .unset]) rfl ?_
          exact k)
        exact own_sglaw1 l Z a0 hw hst qa qb ql qr qs qm rA rB rC rD rE h0 n0 x101 x101 qa c133 c134 c135 c133 c134 c135 x139 x141 hx hby hret hlk hml hnm hS0 hZ hown X0 e0 hk0 N0 X00 KK0 hR rb_c133 rb_c134 rb_c135 rb_c133 rb_c134 rb_c135 (by rw [hx101]; exact own_rem3 _) (by rw [hx101]; exact own_rem3 _) (by rw [hx139]; exact own_rem6 _) (by rw [hx141]; exact own_rem6 _)
      · skip
        refine own_to (V := s₁.setTop (mkF m 145 #[.val (.int qa), .val (.int qb), .val (.int ql), .val (.int qr), .val (.int qs), .val (.int qm), .val (.int x101), .val (.int x101), .val (.int qa), .val (.int c133), .val (.int c134), .val (.int c135), .val (.int c133), .val (.int c134), .val (.int c135), .val (.int x139), .val (.int x139), .unset, .unset, .unset, .unset, .unset, .unset, .unset] [])) ?_ fun t k => (by
          refine XS.ifNo X0.here hx rfl (hb hby at_127) rfl ((if0 _ _).trans (feq (hc127_140 : ¬ ((qm &&& (8 : Int32)) = (0 : Int32)))).1) ?_
          refine XS.iload X0.here hx rfl (hb hby at_130) rfl ?_
          refine XS.goto X0.here hx rfl (pc0 := 132) (pc' := 143) rfl (hb hby at_132) (by decide) (by decide) ?_
          refine XS.istore X0.here hx rfl (hb hby at_143) rfl (l' := #[.val (.int qa), .val (.int qb), .val (.int ql), .val (.int qr), .val (.int qs), .val (.int qm), .val (.int x101), .val (.int x101), .val (.int qa), .val (.int c133), .val (.int c134), .val (.int c135), .val (.int c133), .val (.int c134), .val (.int c135), .val (.int x139), .val (.int x139), .unset, .unset, .unset, .unset, .unset, .unset, .unset]) rfl ?_
          exact k)
        exact own_sglaw1 l Z a0 hw hst qa qb ql qr qs qm rA rB rC rD rE h0 n0 x101 x101 qa c133 c134 c135 c133 c134 c135 x139 x139 hx hby hret hlk hml hnm hS0 hZ hown X0 e0 hk0 N0 X00 KK0 hR rb_c133 rb_c134 rb_c135 rb_c133 rb_c134 rb_c135 (by rw [hx101]; exact own_rem3 _) (by rw [hx101]; exact own_rem3 _) (by rw [hx139]; exact own_rem6 _) (by rw [hx139]; exact own_rem6 _)
set_option maxRecDepth 65536 in
set_option maxHeartbeats 40000000 in
theorem comes_1 {Post : Tables → Env → Array Value → State → Outcome → State → Prop} (hpost : ∀ tb e args s v u, (limb_1_1.after args s (.returned v) u = true ∧ limb_1_2.after args s (.returned v) u = true ∧ True) → ReturnedEndW s (.returned v) u (Jvm.fieldLocs frame_1_writes args s ++ Jvm.arrayLocs frame_1_arrays args s ++ Jvm.staticLocs frame_1_statics s) 32 2176 → Post tb e args s (.returned v) u) :
    ArmFor flags0 classFile x code maxLocals ret World_1 tables_1 room_1 Calls_1 rest_1 Pre_1 Post := by
  intro l hfl _ _ p e ha hc hk s m args below hf hA hF happ hP
  obtain ⟨hcalls, hrest, hpre⟩ := hP
  obtain ⟨-, -, -, hnamed, -, -, -, hat⟩ := (Spec.applies_iff hf).mp happ
  obtain ⟨hg, hn⟩ := and_e (Cond.before_iff.mp (show (Jvm.Cond.and given_1 narrow_1).before args s = true from hpre))
  obtain ⟨hcnt, gr0⟩ := and_e hg
  obtain ⟨ga0, gr1⟩ := and_e gr0
  obtain ⟨ga1, gr2⟩ := and_e gr1
  obtain ⟨ga2, gr3⟩ := and_e gr2
  obtain ⟨ga3, gr4⟩ := and_e gr3
  obtain ⟨ga4, gr5⟩ := and_e gr4
  have ga5 := gr5
  obtain ⟨w0, w1, w2, w3, w4, w5, rfl⟩ : ∃ w0 w1 w2 w3 w4 w5 : Value, args = #[w0, w1, w2, w3, w4, w5] := by
    have hs : args.size = 6 := by simpa [Cond.value, given_1] using hcnt
    obtain ⟨L⟩ := args
    match L, hs with
    | [w0, w1, w2, w3, w4, w5], _ => exact ⟨w0, w1, w2, w3, w4, w5, rfl⟩
  have hw := fun d (hd : d ∈ tables_1) => atoms_spec (ws := Jvm.Cond.code x code maxLocals ret :: tables_1) hat d (List.mem_cons_of_mem _ hd)
  have hfit : Fit s := fun {y c} hc i hi => by
    obtain ⟨ha, rfl⟩ := Array.getElem?_eq_some_iff.mp hc
    have q := List.all_eq_true.mp ((Array.all_eq_true_iff_forall_mem.mp hF) _ (Array.getElem_mem ha)) i (List.mem_range.mpr hi)
    simpa [Array.getElem?_eq_getElem hi] using q
  obtain ⟨hsets, hown0⟩ := atoms_of _ (rest_1_c_eq ▸ (show rest_1_c.before _ s = true from hrest))
  obtain ⟨i0, ei0⟩ := is_v ga0
  obtain rfl : w0 = (.int i0) := Option.some.inj ei0
  obtain ⟨i1, ei1⟩ := is_v ga1
  obtain rfl : w1 = (.int i1) := Option.some.inj ei1
  obtain ⟨i2, ei2⟩ := is_v ga2
  obtain rfl : w2 = (.int i2) := Option.some.inj ei2
  obtain ⟨i3, ei3⟩ := is_v ga3
  obtain rfl : w3 = (.int i3) := Option.some.inj ei3
  obtain ⟨i4, ei4⟩ := is_v ga4
  obtain rfl : w4 = (.int i4) := Option.some.inj ei4
  obtain ⟨i5, ei5⟩ := is_v ga5
  obtain rfl : w5 = (.int i5) := Option.some.inj ei5
  obtain ⟨z1, ez1⟩ := is_v (Cond.before_iff.mp (hsets _ (List.mem_of_getElem? (i := 1) rfl)))
  have S1 : Sta s s.heap "java/lang/String" "COMPACT_STRINGS" "Z" (.int z1) := Sta.start ez1 (Or.inl (hsets _ (List.mem_of_getElem? (i := 0) rfl)))
  have P1 : ¬ (z1 = (0 : Int32)) := gotF (Cond.eq_ints ez1 (Term.int_eval (0))) (not_v (Cond.before_iff.mp (hsets _ (List.mem_of_getElem? (i := 2) rfl))))
  obtain ⟨v3, ev3, r3⟩ := isR_v (Cond.before_iff.mp (hsets _ (List.mem_of_getElem? (i := 8) rfl)))
  have S3 : Sta s s.heap "jdk/internal/util/Preconditions" "SIOOBE_FORMATTER" "Ljava/util/function/BiFunction;" v3 := Sta.start ev3 (Or.inl (hsets _ (List.mem_of_getElem? (i := 7) rfl)))
  obtain ⟨hq0, hr0⟩ := and_e hn
  obtain ⟨hq1, hr1⟩ := and_e hr0
  obtain ⟨hq2, hr2⟩ := and_e hr1
  obtain ⟨hq3, hr3⟩ := and_e hr2
  obtain ⟨hq4, hr4⟩ := and_e hr3
  obtain ⟨hq5, hr5⟩ := and_e hr4
  obtain ⟨hq6, hr6⟩ := and_e hr5
  obtain ⟨hq7, hr7⟩ := and_e hr6
  obtain ⟨hq8, hr8⟩ := and_e hr7
  have hq9 := hr8
  obtain ⟨rA, evrA⟩ := exa_v hq0
  have ErA := Exa.start evrA hq0
  have SrA : Sta s s.heap "com/example/eager_query/eagerquery/model/Role" "TIME" "Lcom/example/eager_query/eagerquery/model/Role;" (.ref rA) := Sta.start evrA (Or.inr ⟨(hw _ (List.mem_of_getElem? (i := 42) rfl)), (hw _ (List.mem_of_getElem? (i := 43) rfl))⟩)
  obtain ⟨rB, evrB⟩ := exa_v hq1
  have ErB := Exa.start evrB hq1
  have SrB : Sta s s.heap "com/example/eager_query/eagerquery/model/Role" "PLACE" "Lcom/example/eager_query/eagerquery/model/Role;" (.ref rB) := Sta.start evrB (Or.inr ⟨(hw _ (List.mem_of_getElem? (i := 42) rfl)), (hw _ (List.mem_of_getElem? (i := 75) rfl))⟩)
  obtain ⟨rC, evrC⟩ := exa_v hq3
  have ErC := Exa.start evrC hq3
  have SrC : Sta s s.heap "com/example/eager_query/eagerquery/model/Role" "OBJECT" "Lcom/example/eager_query/eagerquery/model/Role;" (.ref rC) := Sta.start evrC (Or.inr ⟨(hw _ (List.mem_of_getElem? (i := 42) rfl)), (hw _ (List.mem_of_getElem? (i := 82) rfl))⟩)
  obtain ⟨rD, evrD⟩ := exa_v hq6
  have ErD := Exa.start evrD hq6
  have SrD : Sta s s.heap "com/example/eager_query/eagerquery/model/Role" "ACTION" "Lcom/example/eager_query/eagerquery/model/Role;" (.ref rD) := Sta.start evrD (Or.inr ⟨(hw _ (List.mem_of_getElem? (i := 42) rfl)), (hw _ (List.mem_of_getElem? (i := 85) rfl))⟩)
  obtain ⟨rE, evrE⟩ := exa_v hq2
  have ErE := Exa.start evrE hq2
  have SrE : Sta s s.heap "com/example/eager_query/eagerquery/model/Role" "EVENT" "Lcom/example/eager_query/eagerquery/model/Role;" (.ref rE) := Sta.start evrE (Or.inr ⟨(hw _ (List.mem_of_getElem? (i := 42) rfl)), (hw _ (List.mem_of_getElem? (i := 80) rfl))⟩)
  have nrArB : rA ≠ rB := own_ord evrA evrB hq7 hq4 (by decide)
  have nrArC : rA ≠ rC := own_ord evrA evrC hq7 hq5 (by decide)
  have nrArD : rA ≠ rD := own_ord evrA evrD hq7 hq8 (by decide)
  have nrArE : rA ≠ rE := own_ord evrA evrE hq7 hq9 (by decide)
  have nrBrC : rB ≠ rC := own_ord evrB evrC hq4 hq5 (by decide)
  have nrBrD : rB ≠ rD := own_ord evrB evrD hq4 hq8 (by decide)
  have nrBrE : rB ≠ rE := own_ord evrB evrE hq4 hq9 (by decide)
  have nrCrD : rC ≠ rD := own_ord evrC evrD hq5 hq8 (by decide)
  have nrCrE : rC ≠ rE := own_ord evrC evrE hq5 hq9 (by decide)
  have nrDrE : rD ≠ rE := own_ord evrD evrE hq8 hq9 (by decide)
  have hR : own_Roles s rA rB rC rD rE := ⟨SrA, SrB, SrC, SrD, SrE, ErA, ErB, ErC, ErD, ErE, nrArB, nrArC, nrArD, nrArE, nrBrC, nrBrD, nrBrE, nrCrD, nrCrE, nrDrE⟩
  have hst : own_St s := ⟨⟨z1, S1, P1⟩, ⟨v3, S3, r3⟩, trivial⟩
  obtain ⟨n, o, h1, h2, h3, _, L, rfl, ⟨rfl, N, -⟩, hq⟩ := own_rmlaw l s _ hw hst tables_1 i0 i1 i2 i3 i4 i5 rA rB rC rD rE s.heap s.heap.size (Old.start s) hR p e ha hc hk s m _ below hf ((Spec.applies_iff_loose hf).mp happ).1 ⟨rfl, State.Warmed39.refl s, rfl⟩ trivial
  refine ⟨n, _, h1, h2, h3, hpost _ _ _ _ _ _ ⟨Cond.after_iff.mpr rfl, Cond.after_iff.mpr (eq_i res_at (Term.int_eval (1)) rfl), trivial⟩ ⟨hq.1, hq.2.1, hq.2.2.1, (hq.2.2.2.sift fun y hy => Or.inr (N y hy)).mono (by decide) (by decide)⟩⟩
theorem main_1_1 : Claimed_1_1 := comes_1 fun _ _ _ _ _ _ h hF => ⟨h.1, hF⟩
theorem main_1_2 : Claimed_1_2 := comes_1 fun _ _ _ _ _ _ h hF => ⟨h.2.1, hF⟩
end Jvm.Pilot.@@N@@
namespace Jvm.Pilot.@@N@@
open Jvm Jvm.ClassFile Sem Op Lib Jvm.Free Jvm.Stand Jvm.Pilot.@@N@@.Jvm.D
/-! MADE BY PROGRAM (witnessworld.py) out of the Statement's table words and the real class files: 23 classes; the members and pool entries that the words name. The judged class is class 1, her method 4. -/
namespace start1
open Jvm.ClassFile
def u (s : String) : CpInfo := .utf8 (stringToUtf16 s)
/-- a pool by its gaps: so many unusable entries, then the entry; so many at the end -/
def gap : Nat → List CpInfo → List CpInfo
  | 0, r => r
  | n + 1, r => .unusable :: gap n r
def poolList (es : List (Nat × CpInfo)) (last : Nat) : List CpInfo := es.foldr (fun e r => gap e.1 (e.2 :: r)) (gap last [])
def pool (es : List (Nat × CpInfo)) (last : Nat) : Array CpInfo := ⟨poolList es last⟩
def fileOf (pool : Array CpInfo) (this : Nat) (attrs : Array Attribute := #[]) (ms : Array MethodInfo := #[]) (fl : Nat := 33) (sup : Nat := 0) (ifs : Array Nat := #[]) (fds : Array FieldInfo := #[]) : ClassFile where
  minorVersion := 0
  majorVersion := 65
  constantPool := pool
  accessFlags := fl
  thisClass := this
  superClass := sup
  interfaces := ifs
  fields := fds
  methods := ms
  attributes := attrs
def plain (name : String) (sup : Option ClassId) : Class where
  name := name
  kind := .ordinary
  loader := none
  accessFlags := 33
  super := sup
  interfaces := #[]
  cf := none
  fields := #[]
  methods := #[]
  instanceTypes := #[]
  staticTypes := #[]
  resolved := #[]
  callSites := []
  init := .initialized
  statics := none
  mirror := none

def pool0 : Array CpInfo := pool [(5, u "<init>"), (0, u "()V"), (1, .class_ 10), (1, u "java/lang/Object")] 113

def k0c0 : Code := { maxStack := 0, maxLocals := 1, code := object_method_1_code, exceptionTable := #[], attributes := #[] }
def k0m0 : Method := { name := "<init>", desc := "()V", sig := { parameters := [], returnType := none }, accessFlags := 1, code := some k0c0 }
/-- java/lang/Object -/
def k0 : Class := { plain "java/lang/Object" none with
  accessFlags := 33
  interfaces := #[]
  cf := some (fileOf pool0 8 #[] #[{ accessFlags := 1, nameIndex := 5, descriptorIndex := 6, attributes := #[] }] 33 0 #[] #[])
  fields := #[]
  methods := #[k0m0]
  instanceTypes := #[]
  staticTypes := #[]
  resolved := Array.replicate 124 none
  statics := none }

def pool1 : Array CpInfo := pool [(2, .class_ 4), (1, u "java/lang/Object"), (0, u "<init>"), (0, u "()V"), (0, .fieldref 8 9), (0, .class_ 10), (0, .nameAndType 11 12), (0, u "com/example/eager_query/eagerquery/model/Role"), (0, u "TIME"), (0, u "Lcom/example/eager_query/eagerquery/model/Role;"), (0, .fieldref 8 14), (0, .nameAndType 15 12), (0, u "PLACE"), (0, .fieldref 8 17), (0, .nameAndType 18 12), (0, u "OBJECT"), (0, .fieldref 8 20), (0, .nameAndType 21 12), (0, u "ACTION"), (0, .fieldref 8 23), (0, .nameAndType 24 12), (0, u "EVENT"), (0, .class_ 26), (0, u "java/lang/String"), (0, .methodref 25 28), (0, .nameAndType 5 29), (0, u "([C)V"), (0, .methodref 31 32), (0, .class_ 33), (0, .nameAndType 34 35), (0, u "com/example/eager_query/eagerquery/model/ElementEqualsPinLaw"), (0, u "role"), (0, u "(I)Lcom/example/eager_query/eagerquery/model/Role;"), (0, .class_ 37), (0, u "com/example/eager_query/eagerquery/model/Element"), (0, .methodref 36 39), (0, .nameAndType 5 40), (0, u "(Ljava/lang/String;)V"), (0, .methodref 36 42), (0, .nameAndType 5 43), (0, u "(Lcom/example/eager_query/eagerquery/model/Role;Ljava/lang/String;)V"), (0, .integer 2147483647), (0, .methodref 31 46), (0, .nameAndType 47 48), (0, u "word"), (0, u "(ICCC)Ljava/lang/String;"), (0, .methodref 31 50), (0, .nameAndType 51 52), (0, u "make"), (0, u "(ILjava/lang/String;)Lcom/example/eager_query/eagerquery/model/Element;"), (0, .methodref 36 54), (0, .nameAndType 55 56), (0, u "equals"), (0, u "(Ljava/lang/Object;)Z"), (3, u "law"), (0, u "(IIIIII)Z")] 2

def k1m0 : Method := { name := "<init>", desc := "()V", sig := { parameters := [], returnType := none }, accessFlags := 1, code := none }
def k1c1 : Code := { maxStack := 2, maxLocals := 1, code := method_2_code, exceptionTable := #[], attributes := #[] }
def k1m1 : Method := { name := "role", desc := "(I)Lcom/example/eager_query/eagerquery/model/Role;", sig := { parameters := [.int], returnType := some (.object "com/example/eager_query/eagerquery/model/Role") }, accessFlags := 10, code := some k1c1 }
def k1c2 : Code := { maxStack := 6, maxLocals := 4, code := method_3_code, exceptionTable := #[], attributes := #[] }
def k1m2 : Method := { name := "word", desc := "(ICCC)Ljava/lang/String;", sig := { parameters := [.int, .char, .char, .char], returnType := some (.object "java/lang/String") }, accessFlags := 10, code := some k1c2 }
def k1c3 : Code := { maxStack := 4, maxLocals := 3, code := method_4_code, exceptionTable := #[], attributes := #[] }
def k1m3 : Method := { name := "make", desc := "(ILjava/lang/String;)Lcom/example/eager_query/eagerquery/model/Element;", sig := { parameters := [.int, (.object "java/lang/String")], returnType := some (.object "com/example/eager_query/eagerquery/model/Element") }, accessFlags := 10, code := some k1c3 }
def k1c4 : Code := { maxStack := 4, maxLocals := 24, code := code, exceptionTable := #[], attributes := #[] }
def k1m4 : Method := { name := "law", desc := "(IIIIII)Z", sig := { parameters := [.int, .int, .int, .int, .int, .int], returnType := some .boolean }, accessFlags := 9, code := some k1c4 }
/-- com/example/eager_query/eagerquery/model/ElementEqualsPinLaw -/
def k1 : Class := { plain "com/example/eager_query/eagerquery/model/ElementEqualsPinLaw" (some 0) with
  accessFlags := 49
  interfaces := #[]
  cf := some (fileOf pool1 31 #[] #[{ accessFlags := 1, nameIndex := 5, descriptorIndex := 6, attributes := #[] }, { accessFlags := 10, nameIndex := 34, descriptorIndex := 35, attributes := #[] }, { accessFlags := 10, nameIndex := 47, descriptorIndex := 48, attributes := #[] }, { accessFlags := 10, nameIndex := 51, descriptorIndex := 52, attributes := #[] }, { accessFlags := 9, nameIndex := 60, descriptorIndex := 61, attributes := #[] }] 49 2 #[] #[])
  fields := #[]
  methods := #[k1m0, k1m1, k1m2, k1m3, k1m4]
  instanceTypes := #[]
  staticTypes := #[]
  resolved := Array.replicate 64 none
  statics := none }

def pool2 : Array CpInfo := pool [(1, .class_ 2), (0, u "java/io/Serializable"), (0, .class_ 4), (0, u "java/lang/Object")] 2

/-- java/io/Serializable -/
def k2 : Class := { plain "java/io/Serializable" (some 0) with
  accessFlags := 1537
  interfaces := #[]
  cf := some (fileOf pool2 1 #[] #[] 1537 3 #[] #[])
  fields := #[]
  methods := #[]
  instanceTypes := #[]
  staticTypes := #[]
  resolved := Array.replicate 7 none
  statics := none }

def pool3 : Array CpInfo := pool [(1, .class_ 2), (0, u "java/lang/Comparable"), (0, .class_ 4), (0, u "java/lang/Object")] 7

/-- java/lang/Comparable -/
def k3 : Class := { plain "java/lang/Comparable" (some 0) with
  accessFlags := 1537
  interfaces := #[]
  cf := some (fileOf pool3 1 #[] #[] 1537 3 #[] #[])
  fields := #[]
  methods := #[]
  instanceTypes := #[]
  staticTypes := #[]
  resolved := Array.replicate 12 none
  statics := none }

def pool4 : Array CpInfo := pool [(2, .class_ 4), (1, u "java/lang/CharSequence"), (42, .class_ 48), (0, u "java/lang/CharSequence$1CodePointIterator"), (10, .class_ 60), (0, u "java/lang/CharSequence$1CharIterator"), (5, .class_ 67), (0, u "java/lang/Object")] 63

/-- java/lang/CharSequence -/
def k4 : Class := { plain "java/lang/CharSequence" (some 0) with
  accessFlags := 1537
  interfaces := #[]
  cf := some (fileOf pool4 2 #[.nestMembers #[47, 59]] #[] 1537 66 #[] #[])
  fields := #[]
  methods := #[]
  instanceTypes := #[]
  staticTypes := #[]
  resolved := Array.replicate 131 none
  statics := none }

def pool5 : Array CpInfo := pool [(1, .class_ 2), (0, u "java/lang/constant/Constable"), (0, .class_ 4), (0, u "java/lang/Object")] 6

/-- java/lang/constant/Constable -/
def k5 : Class := { plain "java/lang/constant/Constable" (some 0) with
  accessFlags := 1537
  interfaces := #[]
  cf := some (fileOf pool5 1 #[] #[] 1537 3 #[] #[])
  fields := #[]
  methods := #[]
  instanceTypes := #[]
  staticTypes := #[]
  resolved := Array.replicate 11 none
  statics := none }

def pool6 : Array CpInfo := pool [(1, .class_ 2), (0, u "java/lang/constant/ConstantDesc"), (0, .class_ 4), (0, u "java/lang/Object")] 32

/-- java/lang/constant/ConstantDesc -/
def k6 : Class := { plain "java/lang/constant/ConstantDesc" (some 0) with
  accessFlags := 1537
  interfaces := #[]
  cf := some (fileOf pool6 1 #[] #[] 1537 3 #[] #[])
  fields := #[]
  methods := #[]
  instanceTypes := #[]
  staticTypes := #[]
  resolved := Array.replicate 37 none
  statics := none }

def pool7 : Array CpInfo := pool [(1, .methodref 2 3), (0, .class_ 4), (0, .nameAndType 5 6), (0, u "java/lang/Object"), (0, u "<init>"), (0, u "()V"), (2, .fieldref 10 11), (0, .class_ 12), (0, .nameAndType 13 14), (0, u "java/lang/String"), (0, u "value"), (0, u "[B"), (0, .fieldref 10 16), (0, .nameAndType 17 18), (0, u "coder"), (0, u "B"), (2, u "hash"), (0, u "I"), (2, u "hashIsZero"), (0, u "Z"), (0, .methodref 10 28), (0, .nameAndType 5 29), (0, u "([CIILjava/lang/Void;)V"), (8, .fieldref 10 39), (0, .nameAndType 40 26), (0, u "COMPACT_STRINGS"), (1, .class_ 44), (1, u "java/lang/StringUTF16"), (0, u "compress"), (1, .methodref 42 48), (0, .nameAndType 49 50), (0, u "coderFromArrayLen"), (0, u "([BI)B"), (56, .class_ 109), (1, u "java/lang/StringLatin1"), (67, .methodref 42 178), (0, .nameAndType 45 179), (0, u "([CII)[B"), (361, .methodref 107 542), (0, .nameAndType 543 544), (0, u "equals"), (0, u "([B[B)Z"), (28, u "(Ljava/lang/Object;)Z"), (1, .class_ 576), (0, u "java/lang/CharSequence"), (22, u "CASE_INSENSITIVE_ORDER"), (0, u "Ljava/util/Comparator;"), (409, u "([C)V"), (90, u "serialPersistentFields"), (0, u "[Ljava/io/ObjectStreamField;"), (0, .class_ 1104), (0, u "java/lang/String$CaseInsensitiveComparator"), (1, .class_ 1107), (0, u "java/io/Serializable"), (0, .class_ 1109), (0, u "java/lang/Comparable"), (0, .class_ 1111), (0, u "java/lang/constant/Constable"), (0, .class_ 1113), (0, u "java/lang/constant/ConstantDesc"), (2, u "serialVersionUID"), (0, u "J"), (3, u "REPL"), (0, u "C"), (2, u "LATIN1"), (1, u "UTF16")] 323

def k7m0 : Method := { name := "<init>", desc := "()V", sig := { parameters := [], returnType := none }, accessFlags := 1, code := none }
def k7c1 : Code := { maxStack := 5, maxLocals := 2, code := jdk_42_method_3_code, exceptionTable := #[], attributes := #[] }
def k7m1 : Method := { name := "<init>", desc := "([C)V", sig := { parameters := [(.array .char)], returnType := none }, accessFlags := 1, code := some k7c1 }
def k7c2 : Code := { maxStack := 2, maxLocals := 3, code := jdk_42_method_66_code, exceptionTable := #[], attributes := #[] }
def k7m2 : Method := { name := "equals", desc := "(Ljava/lang/Object;)Z", sig := { parameters := [(.object "java/lang/Object")], returnType := some .boolean }, accessFlags := 1, code := some k7c2 }
def k7c3 : Code := { maxStack := 4, maxLocals := 6, code := jdk_42_method_149_code, exceptionTable := #[], attributes := #[] }
def k7m3 : Method := { name := "<init>", desc := "([CIILjava/lang/Void;)V", sig := { parameters := [(.array .char), .int, .int, (.object "java/lang/Void")], returnType := none }, accessFlags := 2, code := some k7c3 }
/-- java/lang/String -/
def k7 : Class := { plain "java/lang/String" (some 0) with
  accessFlags := 49
  interfaces := #[2, 3, 4, 5, 6]
  cf := some (fileOf pool7 10 #[.nestMembers #[1103]] #[{ accessFlags := 1, nameIndex := 5, descriptorIndex := 6, attributes := #[] }, { accessFlags := 1, nameIndex := 5, descriptorIndex := 1010, attributes := #[] }, { accessFlags := 1, nameIndex := 543, descriptorIndex := 573, attributes := #[] }, { accessFlags := 2, nameIndex := 5, descriptorIndex := 29, attributes := #[] }] 49 2 #[1106, 1108, 575, 1110, 1112] #[{ accessFlags := 18, nameIndex := 13, descriptorIndex := 14, attributes := #[] }, { accessFlags := 18, nameIndex := 17, descriptorIndex := 18, attributes := #[] }, { accessFlags := 2, nameIndex := 21, descriptorIndex := 22, attributes := #[] }, { accessFlags := 2, nameIndex := 25, descriptorIndex := 26, attributes := #[] }, { accessFlags := 26, nameIndex := 1116, descriptorIndex := 1117, attributes := #[] }, { accessFlags := 24, nameIndex := 40, descriptorIndex := 26, attributes := #[] }, { accessFlags := 26, nameIndex := 1101, descriptorIndex := 1102, attributes := #[] }, { accessFlags := 26, nameIndex := 1121, descriptorIndex := 1122, attributes := #[] }, { accessFlags := 25, nameIndex := 599, descriptorIndex := 600, attributes := #[] }, { accessFlags := 24, nameIndex := 1125, descriptorIndex := 18, attributes := #[] }, { accessFlags := 24, nameIndex := 1127, descriptorIndex := 18, attributes := #[] }])
  fields := #[{ name := "value", type := (.array .byte), accessFlags := 18, slot := 0, constantValue := 0 }, { name := "coder", type := .byte, accessFlags := 18, slot := 1, constantValue := 0 }, { name := "hash", type := .int, accessFlags := 2, slot := 2, constantValue := 0 }, { name := "hashIsZero", type := .boolean, accessFlags := 2, slot := 3, constantValue := 0 }, { name := "serialVersionUID", type := .long, accessFlags := 26, slot := 0, constantValue := 0 }, { name := "COMPACT_STRINGS", type := .boolean, accessFlags := 24, slot := 1, constantValue := 0 }, { name := "serialPersistentFields", type := (.array (.object "java/io/ObjectStreamField")), accessFlags := 26, slot := 2, constantValue := 0 }, { name := "REPL", type := .char, accessFlags := 26, slot := 3, constantValue := 0 }, { name := "CASE_INSENSITIVE_ORDER", type := (.object "java/util/Comparator"), accessFlags := 25, slot := 4, constantValue := 0 }, { name := "LATIN1", type := .byte, accessFlags := 24, slot := 5, constantValue := 0 }, { name := "UTF16", type := .byte, accessFlags := 24, slot := 6, constantValue := 0 }]
  methods := #[k7m0, k7m1, k7m2, k7m3]
  instanceTypes := #[(.array .byte), .byte, .int, .boolean]
  staticTypes := #[.long, .boolean, (.array (.object "java/io/ObjectStreamField")), .char, (.object "java/util/Comparator"), .byte, .byte]
  resolved := Array.replicate 1451 none
  statics := some 0 }

def pool8 : Array CpInfo := pool [(6, .class_ 8), (1, u "java/lang/Object"), (0, u "<init>"), (0, u "()V"), (1, .class_ 14), (1, u "java/lang/StringUTF16"), (31, u "$assertionsDisabled"), (0, u "Z"), (13, u "HI_BYTE_SHIFT"), (0, u "I"), (2, u "LO_BYTE_SHIFT"), (49, .methodref 12 116), (0, .nameAndType 117 118), (0, u "compress"), (0, u "([CI[BII)I"), (3, u "([CII)[B"), (138, u "coderFromArrayLen"), (0, u "([BI)B"), (106, .class_ 371), (1, u "java/lang/StringUTF16$LinesSpliterator"), (58, u "MAX_LENGTH"), (196, .class_ 628), (0, u "java/lang/StringUTF16$CodePointsSpliterator"), (0, .class_ 630), (0, u "java/lang/StringUTF16$CharsSpliterator")] 4

def k8m0 : Method := { name := "<init>", desc := "()V", sig := { parameters := [], returnType := none }, accessFlags := 0, code := none }
def k8c1 : Code := { maxStack := 2, maxLocals := 2, code := jdk_52_method_15_code, exceptionTable := #[], attributes := #[] }
def k8m1 : Method := { name := "coderFromArrayLen", desc := "([BI)B", sig := { parameters := [(.array .byte), .int], returnType := some .byte }, accessFlags := 8, code := some k8c1 }
def k8c2 : Code := { maxStack := 5, maxLocals := 6, code := jdk_52_method_16_code, exceptionTable := #[], attributes := #[] }
def k8m2 : Method := { name := "compress", desc := "([CII)[B", sig := { parameters := [(.array .char), .int, .int], returnType := some (.array .byte) }, accessFlags := 9, code := some k8c2 }
def k8c3 : Code := { maxStack := 3, maxLocals := 7, code := jdk_52_method_21_code, exceptionTable := #[], attributes := #[] }
def k8m3 : Method := { name := "compress", desc := "([CI[BII)I", sig := { parameters := [(.array .char), .int, (.array .byte), .int, .int], returnType := some .int }, accessFlags := 9, code := some k8c3 }
/-- java/lang/StringUTF16 -/
def k8 : Class := { plain "java/lang/StringUTF16" (some 0) with
  accessFlags := 48
  interfaces := #[]
  cf := some (fileOf pool8 12 #[.nestMembers #[627, 629, 369]] #[{ accessFlags := 0, nameIndex := 9, descriptorIndex := 10, attributes := #[] }, { accessFlags := 8, nameIndex := 261, descriptorIndex := 262, attributes := #[] }, { accessFlags := 9, nameIndex := 117, descriptorIndex := 122, attributes := #[] }, { accessFlags := 9, nameIndex := 117, descriptorIndex := 118, attributes := #[] }] 48 6 #[] #[{ accessFlags := 26, nameIndex := 61, descriptorIndex := 62, attributes := #[] }, { accessFlags := 26, nameIndex := 65, descriptorIndex := 62, attributes := #[] }, { accessFlags := 24, nameIndex := 430, descriptorIndex := 62, attributes := #[] }, { accessFlags := 4120, nameIndex := 46, descriptorIndex := 47, attributes := #[] }])
  fields := #[{ name := "HI_BYTE_SHIFT", type := .int, accessFlags := 26, slot := 0, constantValue := 0 }, { name := "LO_BYTE_SHIFT", type := .int, accessFlags := 26, slot := 1, constantValue := 0 }, { name := "MAX_LENGTH", type := .int, accessFlags := 24, slot := 2, constantValue := 0 }, { name := "$assertionsDisabled", type := .boolean, accessFlags := 4120, slot := 3, constantValue := 0 }]
  methods := #[k8m0, k8m1, k8m2, k8m3]
  instanceTypes := #[]
  staticTypes := #[.int, .int, .int, .boolean]
  resolved := Array.replicate 635 none
  statics := none }

def pool9 : Array CpInfo := pool [(2, .class_ 4), (1, u "java/lang/Enum"), (0, u "name"), (0, u "Ljava/lang/String;"), (2, u "ordinal"), (0, u "I"), (1, .class_ 14), (1, u "java/lang/Object"), (4, u "hash"), (86, .class_ 108), (1, u "java/lang/Enum$EnumDesc"), (2, .class_ 112), (0, u "java/lang/constant/Constable"), (0, .class_ 114), (0, u "java/lang/Comparable"), (0, .class_ 116), (0, u "java/io/Serializable")] 87

/-- java/lang/Enum -/
def k9 : Class := { plain "java/lang/Enum" (some 0) with
  accessFlags := 1057
  interfaces := #[5, 3, 2]
  cf := some (fileOf pool9 2 #[.nestMembers #[106]] #[] 1057 12 #[111, 113, 115] #[{ accessFlags := 18, nameIndex := 5, descriptorIndex := 6, attributes := #[] }, { accessFlags := 18, nameIndex := 9, descriptorIndex := 10, attributes := #[] }, { accessFlags := 2, nameIndex := 19, descriptorIndex := 10, attributes := #[] }])
  fields := #[{ name := "name", type := (.object "java/lang/String"), accessFlags := 18, slot := 0, constantValue := 0 }, { name := "ordinal", type := .int, accessFlags := 18, slot := 1, constantValue := 0 }, { name := "hash", type := .int, accessFlags := 2, slot := 2, constantValue := 0 }]
  methods := #[]
  instanceTypes := #[(.object "java/lang/String"), .int, .int]
  staticTypes := #[]
  resolved := Array.replicate 204 none
  statics := none }

def pool10 : Array CpInfo := pool [(1, .class_ 2), (0, u "com/example/eager_query/eagerquery/model/Role"), (2, u "TIME"), (0, u "Lcom/example/eager_query/eagerquery/model/Role;"), (2, u "PLACE"), (2, u "OBJECT"), (2, u "ACTION"), (2, u "EVENT"), (2, u "$VALUES"), (0, u "[Lcom/example/eager_query/eagerquery/model/Role;"), (6, .class_ 31), (1, u "java/lang/Enum"), (8, u "roleName"), (0, u "Ljava/lang/String;")] 89

/-- com/example/eager_query/eagerquery/model/Role -/
def k10 : Class := { plain "com/example/eager_query/eagerquery/model/Role" (some 9) with
  accessFlags := 16433
  interfaces := #[]
  cf := some (fileOf pool10 1 #[] #[] 16433 29 #[] #[{ accessFlags := 16409, nameIndex := 5, descriptorIndex := 6, attributes := #[] }, { accessFlags := 16409, nameIndex := 9, descriptorIndex := 6, attributes := #[] }, { accessFlags := 16409, nameIndex := 12, descriptorIndex := 6, attributes := #[] }, { accessFlags := 16409, nameIndex := 15, descriptorIndex := 6, attributes := #[] }, { accessFlags := 16409, nameIndex := 18, descriptorIndex := 6, attributes := #[] }, { accessFlags := 18, nameIndex := 40, descriptorIndex := 41, attributes := #[] }, { accessFlags := 4122, nameIndex := 21, descriptorIndex := 22, attributes := #[] }])
  fields := #[{ name := "TIME", type := (.object "com/example/eager_query/eagerquery/model/Role"), accessFlags := 16409, slot := 0, constantValue := 0 }, { name := "PLACE", type := (.object "com/example/eager_query/eagerquery/model/Role"), accessFlags := 16409, slot := 1, constantValue := 0 }, { name := "OBJECT", type := (.object "com/example/eager_query/eagerquery/model/Role"), accessFlags := 16409, slot := 2, constantValue := 0 }, { name := "ACTION", type := (.object "com/example/eager_query/eagerquery/model/Role"), accessFlags := 16409, slot := 3, constantValue := 0 }, { name := "EVENT", type := (.object "com/example/eager_query/eagerquery/model/Role"), accessFlags := 16409, slot := 4, constantValue := 0 }, { name := "roleName", type := (.object "java/lang/String"), accessFlags := 18, slot := 3, constantValue := 0 }, { name := "$VALUES", type := (.array (.object "com/example/eager_query/eagerquery/model/Role")), accessFlags := 4122, slot := 5, constantValue := 0 }]
  methods := #[]
  instanceTypes := #[(.object "java/lang/String"), .int, .int, (.object "java/lang/String")]
  staticTypes := #[(.object "com/example/eager_query/eagerquery/model/Role"), (.object "com/example/eager_query/eagerquery/model/Role"), (.object "com/example/eager_query/eagerquery/model/Role"), (.object "com/example/eager_query/eagerquery/model/Role"), (.object "com/example/eager_query/eagerquery/model/Role"), (.array (.object "com/example/eager_query/eagerquery/model/Role"))]
  resolved := Array.replicate 131 none
  statics := some 1 }

def pool11 : Array CpInfo := pool [(1, .methodref 2 3), (0, .class_ 4), (0, .nameAndType 5 6), (0, u "java/lang/Object"), (0, u "<init>"), (0, u "()V"), (0, .fieldref 8 9), (0, .class_ 10), (0, .nameAndType 11 12), (0, u "com/example/eager_query/eagerquery/model/Element"), (0, u "role"), (0, u "Lcom/example/eager_query/eagerquery/model/Role;"), (0, .string 14), (0, u "word"), (0, .methodref 16 17), (0, .class_ 18), (0, .nameAndType 19 20), (0, u "java/util/Objects"), (0, u "requireNonNull"), (0, u "(Ljava/lang/Object;Ljava/lang/String;)Ljava/lang/Object;"), (0, .class_ 22), (0, u "java/lang/String"), (0, .fieldref 8 24), (0, .nameAndType 14 25), (0, u "Ljava/lang/String;"), (0, .string 11), (0, .class_ 28), (0, u "com/example/eager_query/eagerquery/model/Role"), (6, .methodref 21 36), (0, .nameAndType 37 38), (0, u "equals"), (0, u "(Ljava/lang/Object;)Z"), (12, u "(Ljava/lang/String;)V"), (2, u "(Lcom/example/eager_query/eagerquery/model/Role;Ljava/lang/String;)V")] 26

def k11c0 : Code := { maxStack := 3, maxLocals := 2, code := prog_15_method_1_code, exceptionTable := #[], attributes := #[] }
def k11m0 : Method := { name := "<init>", desc := "(Ljava/lang/String;)V", sig := { parameters := [(.object "java/lang/String")], returnType := none }, accessFlags := 1, code := some k11c0 }
def k11c1 : Code := { maxStack := 3, maxLocals := 3, code := prog_15_method_2_code, exceptionTable := #[], attributes := #[] }
def k11m1 : Method := { name := "<init>", desc := "(Lcom/example/eager_query/eagerquery/model/Role;Ljava/lang/String;)V", sig := { parameters := [(.object "com/example/eager_query/eagerquery/model/Role"), (.object "java/lang/String")], returnType := none }, accessFlags := 1, code := some k11c1 }
def k11c2 : Code := { maxStack := 2, maxLocals := 3, code := prog_15_method_5_code, exceptionTable := #[], attributes := #[] }
def k11m2 : Method := { name := "equals", desc := "(Ljava/lang/Object;)Z", sig := { parameters := [(.object "java/lang/Object")], returnType := some .boolean }, accessFlags := 1, code := some k11c2 }
/-- com/example/eager_query/eagerquery/model/Element -/
def k11 : Class := { plain "com/example/eager_query/eagerquery/model/Element" (some 0) with
  accessFlags := 33
  interfaces := #[]
  cf := some (fileOf pool11 8 #[] #[{ accessFlags := 1, nameIndex := 5, descriptorIndex := 51, attributes := #[] }, { accessFlags := 1, nameIndex := 5, descriptorIndex := 54, attributes := #[] }, { accessFlags := 1, nameIndex := 37, descriptorIndex := 38, attributes := #[] }] 33 2 #[] #[{ accessFlags := 18, nameIndex := 11, descriptorIndex := 12, attributes := #[] }, { accessFlags := 18, nameIndex := 14, descriptorIndex := 25, attributes := #[] }])
  fields := #[{ name := "role", type := (.object "com/example/eager_query/eagerquery/model/Role"), accessFlags := 18, slot := 0, constantValue := 0 }, { name := "word", type := (.object "java/lang/String"), accessFlags := 18, slot := 1, constantValue := 0 }]
  methods := #[k11m0, k11m1, k11m2]
  instanceTypes := #[(.object "com/example/eager_query/eagerquery/model/Role"), (.object "java/lang/String")]
  staticTypes := #[]
  resolved := Array.replicate 81 none
  statics := none }

def pool12 : Array CpInfo := pool [(2, .class_ 4), (1, u "java/lang/Object"), (0, u "<init>"), (0, u "()V"), (35, .class_ 44), (1, u "java/util/Objects"), (0, u "requireNonNull"), (48, u "(Ljava/lang/Object;Ljava/lang/String;)Ljava/lang/Object;")] 89

def k12m0 : Method := { name := "<init>", desc := "()V", sig := { parameters := [], returnType := none }, accessFlags := 2, code := none }
def k12c1 : Code := { maxStack := 3, maxLocals := 2, code := jdk_31_method_11_code, exceptionTable := #[], attributes := #[] }
def k12m1 : Method := { name := "requireNonNull", desc := "(Ljava/lang/Object;Ljava/lang/String;)Ljava/lang/Object;", sig := { parameters := [(.object "java/lang/Object"), (.object "java/lang/String")], returnType := some (.object "java/lang/Object") }, accessFlags := 9, code := some k12c1 }
/-- java/util/Objects -/
def k12 : Class := { plain "java/util/Objects" (some 0) with
  accessFlags := 49
  interfaces := #[]
  cf := some (fileOf pool12 42 #[] #[{ accessFlags := 2, nameIndex := 5, descriptorIndex := 6, attributes := #[] }, { accessFlags := 9, nameIndex := 45, descriptorIndex := 94, attributes := #[] }] 49 2 #[] #[])
  fields := #[]
  methods := #[k12m0, k12m1]
  instanceTypes := #[]
  staticTypes := #[]
  resolved := Array.replicate 184 none
  statics := none }

def pool13 : Array CpInfo := pool [(4, .class_ 6), (1, u "java/lang/Object"), (0, u "<init>"), (0, u "()V"), (5, .class_ 16), (1, u "java/lang/StringLatin1"), (104, u "$assertionsDisabled"), (0, u "Z"), (98, .class_ 223), (1, u "java/lang/StringLatin1$LinesSpliterator"), (57, u "equals"), (0, u "([B[B)Z"), (107, .class_ 391), (0, u "java/lang/StringLatin1$CharsSpliterator")] 3

def k13m0 : Method := { name := "<init>", desc := "()V", sig := { parameters := [], returnType := none }, accessFlags := 0, code := none }
def k13c1 : Code := { maxStack := 3, maxLocals := 3, code := jdk_43_method_13_code, exceptionTable := #[], attributes := #[] }
def k13m1 : Method := { name := "equals", desc := "([B[B)Z", sig := { parameters := [(.array .byte), (.array .byte)], returnType := some .boolean }, accessFlags := 9, code := some k13c1 }
/-- java/lang/StringLatin1 -/
def k13 : Class := { plain "java/lang/StringLatin1" (some 0) with
  accessFlags := 48
  interfaces := #[]
  cf := some (fileOf pool13 14 #[.nestMembers #[390, 221]] #[{ accessFlags := 0, nameIndex := 7, descriptorIndex := 8, attributes := #[] }, { accessFlags := 9, nameIndex := 281, descriptorIndex := 282, attributes := #[] }] 48 4 #[] #[{ accessFlags := 4120, nameIndex := 121, descriptorIndex := 122, attributes := #[] }])
  fields := #[{ name := "$assertionsDisabled", type := .boolean, accessFlags := 4120, slot := 0, constantValue := 0 }]
  methods := #[k13m0, k13m1]
  instanceTypes := #[]
  staticTypes := #[.boolean]
  resolved := Array.replicate 395 none
  statics := none }

def pool14 : Array CpInfo := pool [(2, .class_ 4), (1, u "java/lang/Object"), (0, u "<init>"), (0, u "()V"), (17, .class_ 26), (1, u "jdk/internal/util/Preconditions"), (28, .class_ 56), (0, u "jdk/internal/util/Preconditions$4"), (57, .class_ 115), (0, u "jdk/internal/util/Preconditions$1"), (7, u "SIOOBE_FORMATTER"), (0, u "Ljava/util/function/BiFunction;"), (0, .class_ 126), (0, u "jdk/internal/util/Preconditions$2"), (3, u "AIOOBE_FORMATTER"), (0, .class_ 132), (0, u "jdk/internal/util/Preconditions$3"), (3, u "IOOBE_FORMATTER")] 57

def k14m0 : Method := { name := "<init>", desc := "()V", sig := { parameters := [], returnType := none }, accessFlags := 1, code := none }
/-- jdk/internal/util/Preconditions -/
def k14 : Class := { plain "jdk/internal/util/Preconditions" (some 0) with
  accessFlags := 33
  interfaces := #[]
  cf := some (fileOf pool14 24 #[.nestMembers #[55, 131, 125, 114]] #[{ accessFlags := 1, nameIndex := 5, descriptorIndex := 6, attributes := #[] }] 33 2 #[] #[{ accessFlags := 25, nameIndex := 123, descriptorIndex := 124, attributes := #[] }, { accessFlags := 25, nameIndex := 130, descriptorIndex := 124, attributes := #[] }, { accessFlags := 25, nameIndex := 136, descriptorIndex := 124, attributes := #[] }])
  fields := #[{ name := "SIOOBE_FORMATTER", type := (.object "java/util/function/BiFunction"), accessFlags := 25, slot := 0, constantValue := 0 }, { name := "AIOOBE_FORMATTER", type := (.object "java/util/function/BiFunction"), accessFlags := 25, slot := 1, constantValue := 0 }, { name := "IOOBE_FORMATTER", type := (.object "java/util/function/BiFunction"), accessFlags := 25, slot := 2, constantValue := 0 }]
  methods := #[k14m0]
  instanceTypes := #[]
  staticTypes := #[(.object "java/util/function/BiFunction"), (.object "java/util/function/BiFunction"), (.object "java/util/function/BiFunction")]
  resolved := Array.replicate 194 none
  statics := some 2 }

def pool15 : Array CpInfo := pool [(9, u "<init>"), (6, .class_ 18), (1, u "java/lang/Object"), (0, u "()V"), (1, .class_ 23), (1, u "jdk/internal/util/ArraysSupport"), (0, u "LOG2_ARRAY_LONG_INDEX_SCALE"), (0, u "I"), (2, u "U"), (0, u "Ljdk/internal/misc/Unsafe;"), (8, u "BIG_ENDIAN"), (0, u "Z"), (8, u "LOG2_BYTE_BIT_SIZE"), (4, u "LOG2_ARRAY_INT_INDEX_SCALE"), (54, u "JLA"), (0, u "Ljdk/internal/access/JavaLangAccess;"), (11, u "LOG2_ARRAY_BOOLEAN_INDEX_SCALE"), (9, u "LOG2_ARRAY_BYTE_INDEX_SCALE"), (5, u "LOG2_ARRAY_CHAR_INDEX_SCALE"), (5, u "LOG2_ARRAY_SHORT_INDEX_SCALE"), (18, u "LOG2_ARRAY_FLOAT_INDEX_SCALE"), (24, u "LOG2_ARRAY_DOUBLE_INDEX_SCALE"), (89, u "T_BOOLEAN"), (2, u "T_CHAR"), (1, u "T_FLOAT"), (1, u "T_DOUBLE"), (1, u "T_BYTE"), (1, u "T_SHORT"), (1, u "T_INT"), (1, u "T_LONG"), (1, u "SOFT_MAX_ARRAY_LENGTH")] 83

def k15m0 : Method := { name := "<init>", desc := "()V", sig := { parameters := [], returnType := none }, accessFlags := 2, code := none }
/-- jdk/internal/util/ArraysSupport -/
def k15 : Class := { plain "jdk/internal/util/ArraysSupport" (some 0) with
  accessFlags := 33
  interfaces := #[]
  cf := some (fileOf pool15 21 #[] #[{ accessFlags := 2, nameIndex := 9, descriptorIndex := 19, attributes := #[] }] 33 16 #[] #[{ accessFlags := 24, nameIndex := 28, descriptorIndex := 29, attributes := #[] }, { accessFlags := 26, nameIndex := 38, descriptorIndex := 39, attributes := #[] }, { accessFlags := 25, nameIndex := 121, descriptorIndex := 25, attributes := #[] }, { accessFlags := 25, nameIndex := 131, descriptorIndex := 25, attributes := #[] }, { accessFlags := 25, nameIndex := 137, descriptorIndex := 25, attributes := #[] }, { accessFlags := 25, nameIndex := 143, descriptorIndex := 25, attributes := #[] }, { accessFlags := 25, nameIndex := 53, descriptorIndex := 25, attributes := #[] }, { accessFlags := 25, nameIndex := 24, descriptorIndex := 25, attributes := #[] }, { accessFlags := 25, nameIndex := 162, descriptorIndex := 25, attributes := #[] }, { accessFlags := 25, nameIndex := 187, descriptorIndex := 25, attributes := #[] }, { accessFlags := 26, nameIndex := 48, descriptorIndex := 25, attributes := #[] }, { accessFlags := 25, nameIndex := 277, descriptorIndex := 25, attributes := #[] }, { accessFlags := 25, nameIndex := 280, descriptorIndex := 25, attributes := #[] }, { accessFlags := 25, nameIndex := 282, descriptorIndex := 25, attributes := #[] }, { accessFlags := 25, nameIndex := 284, descriptorIndex := 25, attributes := #[] }, { accessFlags := 25, nameIndex := 286, descriptorIndex := 25, attributes := #[] }, { accessFlags := 25, nameIndex := 288, descriptorIndex := 25, attributes := #[] }, { accessFlags := 25, nameIndex := 290, descriptorIndex := 25, attributes := #[] }, { accessFlags := 25, nameIndex := 292, descriptorIndex := 25, attributes := #[] }, { accessFlags := 26, nameIndex := 108, descriptorIndex := 109, attributes := #[] }, { accessFlags := 25, nameIndex := 294, descriptorIndex := 25, attributes := #[] }])
  fields := #[{ name := "U", type := (.object "jdk/internal/misc/Unsafe"), accessFlags := 24, slot := 0, constantValue := 0 }, { name := "BIG_ENDIAN", type := .boolean, accessFlags := 26, slot := 1, constantValue := 0 }, { name := "LOG2_ARRAY_BOOLEAN_INDEX_SCALE", type := .int, accessFlags := 25, slot := 2, constantValue := 0 }, { name := "LOG2_ARRAY_BYTE_INDEX_SCALE", type := .int, accessFlags := 25, slot := 3, constantValue := 0 }, { name := "LOG2_ARRAY_CHAR_INDEX_SCALE", type := .int, accessFlags := 25, slot := 4, constantValue := 0 }, { name := "LOG2_ARRAY_SHORT_INDEX_SCALE", type := .int, accessFlags := 25, slot := 5, constantValue := 0 }, { name := "LOG2_ARRAY_INT_INDEX_SCALE", type := .int, accessFlags := 25, slot := 6, constantValue := 0 }, { name := "LOG2_ARRAY_LONG_INDEX_SCALE", type := .int, accessFlags := 25, slot := 7, constantValue := 0 }, { name := "LOG2_ARRAY_FLOAT_INDEX_SCALE", type := .int, accessFlags := 25, slot := 8, constantValue := 0 }, { name := "LOG2_ARRAY_DOUBLE_INDEX_SCALE", type := .int, accessFlags := 25, slot := 9, constantValue := 0 }, { name := "LOG2_BYTE_BIT_SIZE", type := .int, accessFlags := 26, slot := 10, constantValue := 0 }, { name := "T_BOOLEAN", type := .int, accessFlags := 25, slot := 11, constantValue := 0 }, { name := "T_CHAR", type := .int, accessFlags := 25, slot := 12, constantValue := 0 }, { name := "T_FLOAT", type := .int, accessFlags := 25, slot := 13, constantValue := 0 }, { name := "T_DOUBLE", type := .int, accessFlags := 25, slot := 14, constantValue := 0 }, { name := "T_BYTE", type := .int, accessFlags := 25, slot := 15, constantValue := 0 }, { name := "T_SHORT", type := .int, accessFlags := 25, slot := 16, constantValue := 0 }, { name := "T_INT", type := .int, accessFlags := 25, slot := 17, constantValue := 0 }, { name := "T_LONG", type := .int, accessFlags := 25, slot := 18, constantValue := 0 }, { name := "JLA", type := (.object "jdk/internal/access/JavaLangAccess"), accessFlags := 26, slot := 19, constantValue := 0 }, { name := "SOFT_MAX_ARRAY_LENGTH", type := .int, accessFlags := 25, slot := 20, constantValue := 0 }]
  methods := #[k15m0]
  instanceTypes := #[]
  staticTypes := #[(.object "jdk/internal/misc/Unsafe"), .boolean, .int, .int, .int, .int, .int, .int, .int, .int, .int, .int, .int, .int, .int, .int, .int, .int, .int, (.object "jdk/internal/access/JavaLangAccess"), .int]
  resolved := Array.replicate 378 none
  statics := none }

def pool16 : Array CpInfo := pool [(1, u "java/lang/Cloneable"), (0, .class_ 1), (0, u "java/lang/Object"), (0, .class_ 3)] 3

/-- java/lang/Cloneable -/
def k16 : Class := { plain "java/lang/Cloneable" (some 0) with
  accessFlags := 1537
  interfaces := #[]
  cf := some (fileOf pool16 2 #[] #[] 1537 4 #[] #[])
  fields := #[]
  methods := #[]
  instanceTypes := #[]
  staticTypes := #[]
  resolved := Array.replicate 8 none
  statics := none }

/-- the primitive byte -/
def k17 : Class := { plain "byte" none with kind := .primitive 'B', accessFlags := 0x411 }
/-- [B -/
def k18 : Class := { plain "[B" (some 0) with kind := .array 17 .byte, interfaces := #[16, 2], accessFlags := 1041 }

/-- the primitive char -/
def k19 : Class := { plain "char" none with kind := .primitive 'C', accessFlags := 0x411 }
/-- [C -/
def k20 : Class := { plain "[C" (some 0) with kind := .array 19 .char, interfaces := #[16, 2], accessFlags := 1041 }

/-- the primitive int -/
def k21 : Class := { plain "int" none with kind := .primitive 'I', accessFlags := 0x411 }
/-- [I -/
def k22 : Class := { plain "[I" (some 0) with kind := .array 21 .int, interfaces := #[16, 2], accessFlags := 1041 }

def heap : Heap := #[{ cls := 7, slots := #[.long 0, .int 1, .null, .int 0, .null, .int 0, .int 0], vm := .statics 7 },
  { cls := 10, slots := #[.ref 5, .ref 3, .ref 4, .ref 6, .ref 7, .null], vm := .statics 10 },
  { cls := 14, slots := #[.null, .null, .null], vm := .statics 14 },
  { cls := 10, slots := #[.null, .int 1, .int 0, .null], vm := .none },
  { cls := 10, slots := #[.null, .int 2, .int 0, .null], vm := .none },
  { cls := 10, slots := #[.null, .int 0, .int 0, .null], vm := .none },
  { cls := 10, slots := #[.null, .int 3, .int 0, .null], vm := .none },
  { cls := 10, slots := #[.null, .int 4, .int 0, .null], vm := .none }]
def classes : Array Class := #[k0, k1, k2, k3, k4, k5, k6, k7, k8, k9, k10, k11, k12, k13, k14, k15, k16, k17, k18, k19, k20, k21, k22]
def interned : List (Array UInt16 × Addr) := []
def slotsUsed : Nat := 36
def theMethod : MethodId := ⟨1, 4⟩
def args0 : Array Value := #[.int 5, .int 5, .int 5, .int 5, .int 5, .int 5]
def aboutOver (below : List Frame) : State where
  vm := { classes := classes, interned := interned.toArray }
  heap := heap
  slotsUsed := slotsUsed
  threads := #[{ frames := .invoking theMethod args0 :: below }]
def below0 : List Frame := [.native { method := ⟨0, 0⟩, args := #[] }]
def about1 : State := aboutOver below0
def p0 : Program := .bare "" "" ""
def e0 : Env := launch0.env 0 0 0
theorem w_frames : about1.frames = Frame.invoking theMethod args0 :: below0 := rfl
set_option maxRecDepth 65536 in
theorem w_args : argsFit about1.vm theMethod args0 = true := by decide +kernel
set_option maxRecDepth 65536 in
theorem w_heap : heapFits about1 = true := by decide +kernel
set_option maxRecDepth 65536 in
theorem w_runnable : about1.curStatus? = some .runnable := by decide +kernel
set_option maxRecDepth 65536 in
theorem w_alone : about1.alone = true := by decide +kernel
set_option maxRecDepth 65536 in
theorem w_named : about1.methodNamed? x = some theMethod := by decide +kernel
set_option maxRecDepth 65536 in
theorem w_hears : about1.hears theMethod below0 = true := by decide +kernel
set_option maxRecDepth 65536 in
theorem w_ripe : about1.ripe theMethod args0 below0 = true := by decide +kernel
theorem w_running : about1.status = .running := rfl
set_option maxRecDepth 65536 in
theorem w_room : about1.hasRoom e0.platform room_1 = true :=
  launch0.hasRoom_least _ room_1 (by decide +kernel) (by decide +kernel) (by decide +kernel) (by decide +kernel) (by decide +kernel) (by decide +kernel)
theorem allAtoms_all (ts : List Jvm.Cond) (a : Array Jvm.Value) (st : Jvm.State) : (allAtoms ts).before a st = ts.all (fun c => c.before a st) := by
  induction ts with
  | nil => rfl
  | cons c t ih =>
    show (Jvm.Cond.and c (allAtoms t)).before a st = _
    rw [Jvm.Cond.before_and, ih, List.all_cons]
def words1 : List Jvm.Cond := Jvm.Cond.code x code maxLocals ret :: tables_1
/-- a 'code' word, met by the world's own term for the bytes: nothing is compared byte by byte -/
theorem code_word {y : MethodName} {bytes : ByteArray} {mx : Nat} {rt : Option FieldType} {a : Array Value} {s : State} {m : MethodId} {meth : Method} {c : Code} (h1 : s.methodNamed? y = some m) (h2 : s.vm.method? m = some meth) (h3 : meth.code = some c) (h4 : c.code = bytes)
    (h5 : (c.maxLocals == mx && c.exceptionTable.isEmpty && decide (c.maxStack ≤ mostOperands) && decide (meth.sig.returnType = rt) && !meth.locks && decide (parseMethodDescriptor y.desc = some meth.sig)) = true) : (Jvm.Cond.code y bytes mx rt).before a s = true := by
  simp only [Bool.and_eq_true, beq_iff_eq, Bool.not_eq_true', decide_eq_true_eq] at h5
  obtain ⟨⟨⟨⟨⟨g1, g2⟩, g3⟩, g4⟩, g5⟩, g6⟩ := h5
  simp [Cond.before, Cond.holds, Cond.value, h1, h2, h3, h4, g1, g2, g3, g4, g5, g6]
def isCode : Jvm.Cond → Bool
  | .code _ _ _ _ => true
  | _ => false
theorem all_split {L : List Jvm.Cond} {P : Jvm.Cond → Bool} (h1 : L.all (fun c => isCode c || P c) = true) (h2 : ∀ c ∈ L.filter isCode, P c = true) : L.all P = true := by
  refine List.all_eq_true.mpr fun c hc => ?_
  have h := List.all_eq_true.mp h1 c hc
  rcases Bool.eq_false_or_eq_true (isCode c) with hi | hi
  · exact h2 c (List.mem_filter.mpr ⟨hc, hi⟩)
  · simpa [hi] using h
set_option maxRecDepth 65536 in
theorem w_c0 : (Jvm.Cond.code x code maxLocals ret).before args0 about1 = true := code_word (m := ⟨1, 4⟩) (meth := k1m4) (c := k1c4) (by decide +kernel) rfl rfl rfl (by decide +kernel)
set_option maxRecDepth 65536 in
theorem w_c1 : (Jvm.Cond.code ({ cls := "com/example/eager_query/eagerquery/model/ElementEqualsPinLaw", name := "word", desc := "(ICCC)Ljava/lang/String;" } : Jvm.MethodName) method_3_code (4 : Nat) (Option.some (Jvm.ClassFile.FieldType.object "java/lang/String"))).before args0 about1 = true := code_word (m := ⟨1, 2⟩) (meth := k1m2) (c := k1c2) (by decide +kernel) rfl rfl rfl (by decide +kernel)
set_option maxRecDepth 65536 in
theorem w_c2 : (Jvm.Cond.code ({ cls := "java/lang/String", name := "<init>", desc := "([C)V" } : Jvm.MethodName) jdk_42_method_3_code (2 : Nat) (Option.none : Option Jvm.ClassFile.FieldType)).before args0 about1 = true := code_word (m := ⟨7, 1⟩) (meth := k7m1) (c := k7c1) (by decide +kernel) rfl rfl rfl (by decide +kernel)
set_option maxRecDepth 65536 in
theorem w_c3 : (Jvm.Cond.code ({ cls := "java/lang/String", name := "<init>", desc := "([CIILjava/lang/Void;)V" } : Jvm.MethodName) jdk_42_method_149_code (6 : Nat) (Option.none : Option Jvm.ClassFile.FieldType)).before args0 about1 = true := code_word (m := ⟨7, 3⟩) (meth := k7m3) (c := k7c3) (by decide +kernel) rfl rfl rfl (by decide +kernel)
set_option maxRecDepth 65536 in
theorem w_c4 : (Jvm.Cond.code ({ cls := "java/lang/Object", name := "<init>", desc := "()V" } : Jvm.MethodName) object_method_1_code (1 : Nat) (Option.none : Option Jvm.ClassFile.FieldType)).before args0 about1 = true := code_word (m := ⟨0, 0⟩) (meth := k0m0) (c := k0c0) (by decide +kernel) rfl rfl rfl (by decide +kernel)
set_option maxRecDepth 65536 in
theorem w_c5 : (Jvm.Cond.code ({ cls := "java/lang/StringUTF16", name := "compress", desc := "([CII)[B" } : Jvm.MethodName) jdk_52_method_16_code (6 : Nat) (Option.some (Jvm.ClassFile.FieldType.array Jvm.ClassFile.FieldType.byte))).before args0 about1 = true := code_word (m := ⟨8, 2⟩) (meth := k8m2) (c := k8c2) (by decide +kernel) rfl rfl rfl (by decide +kernel)
set_option maxRecDepth 65536 in
theorem w_c6 : (Jvm.Cond.code ({ cls := "java/lang/StringUTF16", name := "compress", desc := "([CI[BII)I" } : Jvm.MethodName) jdk_52_method_21_code (7 : Nat) (Option.some Jvm.ClassFile.FieldType.int)).before args0 about1 = true := code_word (m := ⟨8, 3⟩) (meth := k8m3) (c := k8c3) (by decide +kernel) rfl rfl rfl (by decide +kernel)
set_option maxRecDepth 65536 in
theorem w_c7 : (Jvm.Cond.code ({ cls := "java/lang/StringUTF16", name := "coderFromArrayLen", desc := "([BI)B" } : Jvm.MethodName) jdk_52_method_15_code (2 : Nat) (Option.some Jvm.ClassFile.FieldType.byte)).before args0 about1 = true := code_word (m := ⟨8, 1⟩) (meth := k8m1) (c := k8c1) (by decide +kernel) rfl rfl rfl (by decide +kernel)
set_option maxRecDepth 65536 in
theorem w_c8 : (Jvm.Cond.code ({ cls := "com/example/eager_query/eagerquery/model/ElementEqualsPinLaw", name := "make", desc := "(ILjava/lang/String;)Lcom/example/eager_query/eagerquery/model/Element;" } : Jvm.MethodName) method_4_code (3 : Nat) (Option.some (Jvm.ClassFile.FieldType.object "com/example/eager_query/eagerquery/model/Element"))).before args0 about1 = true := code_word (m := ⟨1, 3⟩) (meth := k1m3) (c := k1c3) (by decide +kernel) rfl rfl rfl (by decide +kernel)
set_option maxRecDepth 65536 in
theorem w_c9 : (Jvm.Cond.code ({ cls := "com/example/eager_query/eagerquery/model/ElementEqualsPinLaw", name := "role", desc := "(I)Lcom/example/eager_query/eagerquery/model/Role;" } : Jvm.MethodName) method_2_code (1 : Nat) (Option.some (Jvm.ClassFile.FieldType.object "com/example/eager_query/eagerquery/model/Role"))).before args0 about1 = true := code_word (m := ⟨1, 1⟩) (meth := k1m1) (c := k1c1) (by decide +kernel) rfl rfl rfl (by decide +kernel)
set_option maxRecDepth 65536 in
theorem w_c10 : (Jvm.Cond.code ({ cls := "com/example/eager_query/eagerquery/model/Element", name := "<init>", desc := "(Lcom/example/eager_query/eagerquery/model/Role;Ljava/lang/String;)V" } : Jvm.MethodName) prog_15_method_2_code (3 : Nat) (Option.none : Option Jvm.ClassFile.FieldType)).before args0 about1 = true := code_word (m := ⟨11, 1⟩) (meth := k11m1) (c := k11c1) (by decide +kernel) rfl rfl rfl (by decide +kernel)
set_option maxRecDepth 65536 in
theorem w_c11 : (Jvm.Cond.code ({ cls := "java/util/Objects", name := "requireNonNull", desc := "(Ljava/lang/Object;Ljava/lang/String;)Ljava/lang/Object;" } : Jvm.MethodName) jdk_31_method_11_code (2 : Nat) (Option.some (Jvm.ClassFile.FieldType.object "java/lang/Object"))).before args0 about1 = true := code_word (m := ⟨12, 1⟩) (meth := k12m1) (c := k12c1) (by decide +kernel) rfl rfl rfl (by decide +kernel)
set_option maxRecDepth 65536 in
theorem w_c12 : (Jvm.Cond.code ({ cls := "com/example/eager_query/eagerquery/model/Element", name := "<init>", desc := "(Ljava/lang/String;)V" } : Jvm.MethodName) prog_15_method_1_code (2 : Nat) (Option.none : Option Jvm.ClassFile.FieldType)).before args0 about1 = true := code_word (m := ⟨11, 0⟩) (meth := k11m0) (c := k11c0) (by decide +kernel) rfl rfl rfl (by decide +kernel)
set_option maxRecDepth 65536 in
theorem w_c13 : (Jvm.Cond.code ({ cls := "com/example/eager_query/eagerquery/model/Element", name := "equals", desc := "(Ljava/lang/Object;)Z" } : Jvm.MethodName) prog_15_method_5_code (3 : Nat) (Option.some Jvm.ClassFile.FieldType.boolean)).before args0 about1 = true := code_word (m := ⟨11, 2⟩) (meth := k11m2) (c := k11c2) (by decide +kernel) rfl rfl rfl (by decide +kernel)
set_option maxRecDepth 65536 in
theorem w_c14 : (Jvm.Cond.code ({ cls := "java/lang/String", name := "equals", desc := "(Ljava/lang/Object;)Z" } : Jvm.MethodName) jdk_42_method_66_code (3 : Nat) (Option.some Jvm.ClassFile.FieldType.boolean)).before args0 about1 = true := code_word (m := ⟨7, 2⟩) (meth := k7m2) (c := k7c2) (by decide +kernel) rfl rfl rfl (by decide +kernel)
set_option maxRecDepth 65536 in
theorem w_c15 : (Jvm.Cond.code ({ cls := "java/lang/StringLatin1", name := "equals", desc := "([B[B)Z" } : Jvm.MethodName) jdk_43_method_13_code (3 : Nat) (Option.some Jvm.ClassFile.FieldType.boolean)).before args0 about1 = true := code_word (m := ⟨13, 1⟩) (meth := k13m1) (c := k13c1) (by decide +kernel) rfl rfl rfl (by decide +kernel)
def codes1 : List Jvm.Cond := [Jvm.Cond.code x code maxLocals ret, Jvm.Cond.code ({ cls := "com/example/eager_query/eagerquery/model/ElementEqualsPinLaw", name := "word", desc := "(ICCC)Ljava/lang/String;" } : Jvm.MethodName) method_3_code (4 : Nat) (Option.some (Jvm.ClassFile.FieldType.object "java/lang/String")), Jvm.Cond.code ({ cls := "java/lang/String", name := "<init>", desc := "([C)V" } : Jvm.MethodName) jdk_42_method_3_code (2 : Nat) (Option.none : Option Jvm.ClassFile.FieldType), Jvm.Cond.code ({ cls := "java/lang/String", name := "<init>", desc := "([CIILjava/lang/Void;)V" } : Jvm.MethodName) jdk_42_method_149_code (6 : Nat) (Option.none : Option Jvm.ClassFile.FieldType), Jvm.Cond.code ({ cls := "java/lang/Object", name := "<init>", desc := "()V" } : Jvm.MethodName) object_method_1_code (1 : Nat) (Option.none : Option Jvm.ClassFile.FieldType), Jvm.Cond.code ({ cls := "java/lang/StringUTF16", name := "compress", desc := "([CII)[B" } : Jvm.MethodName) jdk_52_method_16_code (6 : Nat) (Option.some (Jvm.ClassFile.FieldType.array Jvm.ClassFile.FieldType.byte)), Jvm.Cond.code ({ cls := "java/lang/StringUTF16", name := "compress", desc := "([CI[BII)I" } : Jvm.MethodName) jdk_52_method_21_code (7 : Nat) (Option.some Jvm.ClassFile.FieldType.int), Jvm.Cond.code ({ cls := "java/lang/StringUTF16", name := "coderFromArrayLen", desc := "([BI)B" } : Jvm.MethodName) jdk_52_method_15_code (2 : Nat) (Option.some Jvm.ClassFile.FieldType.byte), Jvm.Cond.code ({ cls := "com/example/eager_query/eagerquery/model/ElementEqualsPinLaw", name := "make", desc := "(ILjava/lang/String;)Lcom/example/eager_query/eagerquery/model/Element;" } : Jvm.MethodName) method_4_code (3 : Nat) (Option.some (Jvm.ClassFile.FieldType.object "com/example/eager_query/eagerquery/model/Element")), Jvm.Cond.code ({ cls := "com/example/eager_query/eagerquery/model/ElementEqualsPinLaw", name := "role", desc := "(I)Lcom/example/eager_query/eagerquery/model/Role;" } : Jvm.MethodName) method_2_code (1 : Nat) (Option.some (Jvm.ClassFile.FieldType.object "com/example/eager_query/eagerquery/model/Role")), Jvm.Cond.code ({ cls := "com/example/eager_query/eagerquery/model/Element", name := "<init>", desc := "(Lcom/example/eager_query/eagerquery/model/Role;Ljava/lang/String;)V" } : Jvm.MethodName) prog_15_method_2_code (3 : Nat) (Option.none : Option Jvm.ClassFile.FieldType), Jvm.Cond.code ({ cls := "java/util/Objects", name := "requireNonNull", desc := "(Ljava/lang/Object;Ljava/lang/String;)Ljava/lang/Object;" } : Jvm.MethodName) jdk_31_method_11_code (2 : Nat) (Option.some (Jvm.ClassFile.FieldType.object "java/lang/Object")), Jvm.Cond.code ({ cls := "com/example/eager_query/eagerquery/model/Element", name := "<init>", desc := "(Ljava/lang/String;)V" } : Jvm.MethodName) prog_15_method_1_code (2 : Nat) (Option.none : Option Jvm.ClassFile.FieldType), Jvm.Cond.code ({ cls := "com/example/eager_query/eagerquery/model/Element", name := "equals", desc := "(Ljava/lang/Object;)Z" } : Jvm.MethodName) prog_15_method_5_code (3 : Nat) (Option.some Jvm.ClassFile.FieldType.boolean), Jvm.Cond.code ({ cls := "java/lang/String", name := "equals", desc := "(Ljava/lang/Object;)Z" } : Jvm.MethodName) jdk_42_method_66_code (3 : Nat) (Option.some Jvm.ClassFile.FieldType.boolean), Jvm.Cond.code ({ cls := "java/lang/StringLatin1", name := "equals", desc := "([B[B)Z" } : Jvm.MethodName) jdk_43_method_13_code (3 : Nat) (Option.some Jvm.ClassFile.FieldType.boolean)]
set_option maxRecDepth 65536 in
theorem codes_eq : words1.filter isCode = codes1 := rfl
theorem w_codes : ∀ c ∈ words1.filter isCode, c.before args0 about1 = true := by
  rw [codes_eq]
  intro c hc
  simp only [codes1, List.mem_cons, List.not_mem_nil, or_false] at hc
  rcases hc with rfl | rfl | rfl | rfl | rfl | rfl | rfl | rfl | rfl | rfl | rfl | rfl | rfl | rfl | rfl | rfl
  · exact w_c0
  · exact w_c1
  · exact w_c2
  · exact w_c3
  · exact w_c4
  · exact w_c5
  · exact w_c6
  · exact w_c7
  · exact w_c8
  · exact w_c9
  · exact w_c10
  · exact w_c11
  · exact w_c12
  · exact w_c13
  · exact w_c14
  · exact w_c15
set_option maxRecDepth 65536 in
theorem w_t1 : (words1.take 24).all (fun c => isCode c || c.before args0 about1) = true := by decide +kernel
set_option maxRecDepth 65536 in
theorem w_t2 : ((words1.drop 24).take 24).all (fun c => isCode c || c.before args0 about1) = true := by decide +kernel
set_option maxRecDepth 65536 in
theorem w_t3 : (((words1.drop 24).drop 24).take 24).all (fun c => isCode c || c.before args0 about1) = true := by decide +kernel
set_option maxRecDepth 65536 in
theorem w_t4 : ((((words1.drop 24).drop 24).drop 24).take 24).all (fun c => isCode c || c.before args0 about1) = true := by decide +kernel
set_option maxRecDepth 65536 in
theorem w_t5 : ((((words1.drop 24).drop 24).drop 24).drop 24).all (fun c => isCode c || c.before args0 about1) = true := by decide +kernel
theorem w_tables : (allAtoms (Jvm.Cond.code x code maxLocals ret :: tables_1)).before args0 about1 = true := by
  rw [allAtoms_all]
  show words1.all (fun c => c.before args0 about1) = true
  refine all_split ?_ w_codes
  rw [← List.take_append_drop 24 words1, List.all_append, w_t1, ← List.take_append_drop 24 (words1.drop 24), List.all_append, w_t2, ← List.take_append_drop 24 ((words1.drop 24).drop 24), List.all_append, w_t3, ← List.take_append_drop 24 (((words1.drop 24).drop 24).drop 24), List.all_append, w_t4, w_t5]
  rfl
set_option maxRecDepth 65536 in
theorem w_rest : rest_1_c.before args0 about1 = true := by decide +kernel
set_option maxRecDepth 65536 in
theorem w_case : (Jvm.Cond.and given_1 narrow_1).before args0 about1 = true := by decide +kernel
theorem w_applies : (headSpec (Jvm.Cond.code x code maxLocals ret :: tables_1) room_1).applies x e0.platform about1 = true :=
  (Spec.applies_iff w_frames).mpr ⟨w_running, w_runnable, w_alone, w_named, w_hears, w_ripe, w_room, w_tables⟩
theorem atStart : AtStart classFile x code maxLocals ret World_1 tables_1 room_1 Calls_1 rest_1 Pre_1 launch0 p0 e0 about1 theMethod args0 below0 :=
  ⟨lists_1, trivial, launch0.admits_env _ _ _, launch0.least_env, fairChoices_fair.cas, fairChoices_fair.clock, w_frames, w_args, w_heap, w_applies, trivial, w_rest, w_case⟩
end start1
theorem witness_1 : WitnessClaimed_1 := ⟨start1.p0, start1.e0, start1.about1, start1.theMethod, start1.args0, start1.below0, start1.atStart⟩
end Jvm.Pilot.@@N@@
