import JvmDerived
import JvmDerived.Pilot.@@N@@Statement
import JvmDerived.Pilot.@@N@@Code
set_option linter.unusedVariables false
set_option linter.unusedSimpArgs false

/- laws to paste: Road.backV, Road.lenW, Road.chN, Road.codOf (cut by pick.py; bodies as the Statement names them) -/
namespace Jvm.Pilot.@@N@@
namespace StrChars
open Jvm Sem ClassFile Op Lib Jvm.Stand Jvm.Free.XT Jvm.Free.ALB Jvm.Free.JM Jvm.Free
open Jvm.Lib.Cold (StaticIs)
/-- a char array whose places are chars -/
def Ch (a : Addr) (A : Cell) (U : State) : Prop := Arr .char a A U ∧ Typed .char A
theorem Ch.mv {a : Addr} {A : Cell} {U U' : State} (h : Ch a A U) (hal : U.vm.Alike U'.vm) (hh : U'.heap = U.heap) : Ch a A U' := ⟨h.1.mv hal hh, h.2⟩
theorem Ch.keep {a : Addr} {A : Cell} {U U' : State} (h : Ch a A U) (hal : U.vm.Alike U'.vm) (hk : U'.heap[a]? = some A) : Ch a A U' := ⟨h.1.keep hal hk, h.2⟩
/-- what place i of a char[]'s cell holds -/
def cv (A : Cell) (i : Nat) : Int32 := match A.slots[i]? with | some (.int x) => x | _ => 0
theorem Ch.get {a : Addr} {A : Cell} {U : State} (h : Ch a A U) {i : Nat} (hi : i < A.slots.size) : A.slots[i]? = some (.int (cv A i)) := by
  have e := Array.getElem?_eq_getElem hi
  have f := h.2 i _ e
  unfold cv; rw [e]
  generalize A.slots[i] = v at f
  cases v <;> simp [fits] at f ⊢
/-- the byte that i2b leaves of a char -/
def lo8 (x : Int32) : Int32 := x.toInt8.toInt32
theorem fits_lo8 (y : Int32) : fits .byte (.int (lo8 y)) = true := by
  have h1 := y.toInt8.le_toInt
  have h2 := y.toInt8.toInt_lt
  simp only [lo8, fits, Bool.and_eq_true, decide_eq_true_eq, Int32.le_iff_toInt_le, Int8.toInt_toInt32, show (-128 : Int32).toInt = -128 from by decide, show (127 : Int32).toInt = 127 from by decide]
  omega
/-- A' is A but that each place j of lo .. hi - 1 holds f j -/
def Laid (A A' : Cell) (lo hi : Nat) (f : Nat → Value) : Prop := A'.cls = A.cls ∧ A'.vm = A.vm ∧ A'.slots.size = A.slots.size ∧ ∀ i, A'.slots[i]? = if lo ≤ i ∧ i < hi then some (f i) else A.slots[i]?
theorem Laid.zero (A : Cell) (lo : Nat) (f : Nat → Value) : Laid A A lo (lo + 0) f := ⟨rfl, rfl, rfl, fun i => by rw [if_neg (by omega)]⟩
theorem Laid.step {A Ak : Cell} {lo k : Nat} {f : Nat → Value} {v : Value} (h : Laid A Ak lo k f) (hlo : lo ≤ k) (hk : k < Ak.slots.size) (hv : v = f k) : Laid A (Ak.setSlot k v) lo (k + 1) f := by
  refine ⟨h.1, h.2.1, by simpa [Cell.setSlot] using h.2.2.1, fun i => ?_⟩
  by_cases e : k = i
  · subst e; rw [Cell.slots_setSlot_self v hk, if_pos (by omega), hv]
  · rw [Cell.slots_setSlot_ne v e, h.2.2.2 i]
    by_cases q : lo ≤ i ∧ i < k
    · rw [if_pos q, if_pos (by omega)]
    · rw [if_neg q, if_neg (by omega)]
def U16 : String := "java/lang/StringUTF16"
namespace Cmp5
def yN : MethodName := ⟨"java/lang/StringUTF16", "compress", "([CI[BII)I"⟩
abbrev yB : ByteArray := jdk_52_method_21_code
theorem d0 : decode yB 0 = .ok (.iconst 0, 1) := by decide +kernel
theorem d1 : decode yB 1 = .ok (.istore 5, 2) := by decide +kernel
theorem d3 : decode yB 3 = .ok (.iload 5, 2) := by decide +kernel
theorem d5 : decode yB 5 = .ok (.iload 4, 2) := by decide +kernel
theorem d7 : decode yB 7 = .ok (.if_icmp (.ge) 37, 3) := by decide +kernel
theorem d10 : decode yB 10 = .ok (.aload_n 0, 1) := by decide +kernel
theorem d11 : decode yB 11 = .ok (.iload_n 1, 1) := by decide +kernel
theorem d12 : decode yB 12 = .ok (.caload, 1) := by decide +kernel
theorem d13 : decode yB 13 = .ok (.istore 6, 2) := by decide +kernel
theorem d15 : decode yB 15 = .ok (.iload 6, 2) := by decide +kernel
theorem d17 : decode yB 17 = .ok (.sipush 255, 3) := by decide +kernel
theorem d20 : decode yB 20 = .ok (.if_icmp (.le) 6, 3) := by decide +kernel
theorem d26 : decode yB 26 = .ok (.aload_n 2, 1) := by decide +kernel
theorem d27 : decode yB 27 = .ok (.iload_n 3, 1) := by decide +kernel
theorem d28 : decode yB 28 = .ok (.iload 6, 2) := by decide +kernel
theorem d30 : decode yB 30 = .ok (.i2b, 1) := by decide +kernel
theorem d31 : decode yB 31 = .ok (.bastore, 1) := by decide +kernel
theorem d32 : decode yB 32 = .ok (.iinc 1 1, 3) := by decide +kernel
theorem d35 : decode yB 35 = .ok (.iinc 3 1, 3) := by decide +kernel
theorem d38 : decode yB 38 = .ok (.iinc 5 1, 3) := by decide +kernel
theorem d41 : decode yB 41 = .ok (.goto (-38), 3) := by decide +kernel
theorem d44 : decode yB 44 = .ok (.iload 4, 2) := by decide +kernel
theorem d46 : decode yB 46 = .ok (.ireturn, 1) := by decide +kernel
def site : List Cond := []
def tab : Cond := tabOf yN yB 7 (some .int) site
def P (b : Addr) (A : Cell) (d : Addr) (B : Cell) (o q len : Nat) (args : Array Value) (s : State) : Prop := args = #[.ref b, .int (Int32.ofNat o), .ref d, .int (Int32.ofNat q), .int (Int32.ofNat len)] ∧ Ch b A s ∧ Arr .byte d B s ∧ b ≠ d ∧ o + len ≤ A.slots.size ∧ q + len ≤ B.slots.size ∧ ∀ i, i < len → ¬ 255 < cv A (o + i)
def E (b : Addr) (A : Cell) (d : Addr) (B : Cell) (o q len : Nat) (r : Option Value) (s u : State) : Prop := r = some (.int (Int32.ofNat len)) ∧ ∃ B', Put d B' s u ∧ Laid B B' q (q + len) (fun j => Value.int (lo8 (cv A (o + (j - q)))))
/-- no char of the range above 255: len; the places written hold each char's low byte -/
theorem law (l : Launch) (b : Addr) (A : Cell) (d : Addr) (B : Cell) (o q len : Nat) : Law l yN 5 5 0 0 yB 7 (some .int) site (P b A d B o q len) (E b A d B o q len) (copyLocs d q len) 0 0 := by
  refine Law.of_walk (plainFor_of_name (by decide +kernel)) (by decide +kernel) (by decide +kernel) (by decide) (fun _ _ h => by rw [h.1]; rfl) (fun _ U U' hal hh h => ⟨h.1, h.2.1.mv hal hh, h.2.2.1.mv hal hh, h.2.2.2⟩) (fun r U U' V V' h1 hal h2 h => ⟨h.1, h.2.elim fun B' q => ⟨B', q.1.mv h1 h2, q.2⟩⟩) ?_
  intro p e s m args below meth c s₁ X0 hexec hbytes hml hret hlk hnm hown hh0 W hP
  obtain ⟨rfl, hA, hB, hne, l1, l2, hp⟩ := hP
  have c1 : Steps p.tables e below (s₁.setTop (entryFrame m #[.ref b, .int (Int32.ofNat o), .ref d, .int (Int32.ofNat q), .int (Int32.ofNat len)] 7)) (s₁.setTop (mkF m 0 #[.val (.ref b), .val (.int (Int32.ofNat o)), .val (.ref d), .val (.int (Int32.ofNat q)), .val (.int (Int32.ofNat len)), .unset, .unset] [])) := entry rfl
  have hA0 := hA.1.mv X0.warmed.alike hh0
  have hB0 := hB.mv X0.warmed.alike hh0
  have a31 := hA.1.2.2.2
  have c2 : Steps p.tables e below (s₁.setTop (entryFrame m #[.ref b, .int (Int32.ofNat o), .ref d, .int (Int32.ofNat q), .int (Int32.ofNat len)] 7)) (s₁.setTop (mkF m 3 #[.val (.ref b), .val (.int (Int32.ofNat o)), .val (.ref d), .val (.int (Int32.ofNat q)), .val (.int (Int32.ofNat len)), .val (.int 0), .unset] [])) := c1.trans (by
    refine iconstV X0.here hexec rfl 0 (hb hbytes d0) (by decide) ?_
    refine XS.istore X0.here hexec rfl (hb hbytes d1) rfl rfl ?_
    exact Steps.refl _)
  have loop : ∀ (r i : Nat), i + r = len → ∀ (z : Slot), (z = .unset ∨ ∃ w, z = .val w ∧ w.category = 1) → ∀ (Tl : State) (Bk : Cell), Stand p l e { frames := 0, locals := 0, cells := 0, slots := 0 } s m #[.ref b, .int (Int32.ofNat o), .ref d, .int (Int32.ofNat q), .int (Int32.ofNat len)] below meth c Tl ([] ++ copyLocs d q i) 0 0 → Put d Bk s₁ Tl → Laid B Bk q (q + i) (fun j => Value.int (lo8 (cv A (o + (j - q))))) →
      Steps p.tables e below (s₁.setTop (entryFrame m #[.ref b, .int (Int32.ofNat o), .ref d, .int (Int32.ofNat q), .int (Int32.ofNat len)] 7)) (Tl.setTop (mkF m 3 #[.val (.ref b), .val (.int (Int32.ofNat (o + i))), .val (.ref d), .val (.int (Int32.ofNat (q + i))), .val (.int (Int32.ofNat len)), .val (.int (Int32.ofNat i)), z] [])) → ∃ (T' : State) (B' : Cell) (z' : Slot), Stand p l e { frames := 0, locals := 0, cells := 0, slots := 0 } s m #[.ref b, .int (Int32.ofNat o), .ref d, .int (Int32.ofNat q), .int (Int32.ofNat len)] below meth c T' ([] ++ copyLocs d q len) 0 0 ∧ Put d B' s₁ T' ∧ Laid B B' q (q + len) (fun j => Value.int (lo8 (cv A (o + (j - q))))) ∧
      Steps p.tables e below (s₁.setTop (entryFrame m #[.ref b, .int (Int32.ofNat o), .ref d, .int (Int32.ofNat q), .int (Int32.ofNat len)] 7)) (T'.setTop (mkF m 3 #[.val (.ref b), .val (.int (Int32.ofNat (o + len))), .val (.ref d), .val (.int (Int32.ofNat (q + len))), .val (.int (Int32.ofNat len)), .val (.int (Int32.ofNat len)), z'] [])) := by
    intro r
    induction r with
    | zero =>
      intro i hi z hz Tl Bk Xl pl fl cl
      have hil : i = len := by omega
      rw [hil] at Xl fl cl
      exact ⟨Tl, Bk, z, Xl, pl, fl, cl⟩
    | succ r ih =>
      intro i hi z hz Tl Bk Xl pl fl cl
      have all := X0.warmed.alike.symm.trans Xl.warmed.alike
      have hAl := hA0.keep all (pl.other hne hA0.1)
      have hBk := hB0.like all pl.1 fl.1 fl.2.1 fl.2.2.1
      have hlt : q + i < Bk.slots.size := by rw [fl.2.2.1]; omega
      have c3 : Steps p.tables e below (s₁.setTop (entryFrame m #[.ref b, .int (Int32.ofNat o), .ref d, .int (Int32.ofNat q), .int (Int32.ofNat len)] 7)) (Tl.setTop (mkF m 12 #[.val (.ref b), .val (.int (Int32.ofNat (o + i))), .val (.ref d), .val (.int (Int32.ofNat (q + i))), .val (.int (Int32.ofNat len)), .val (.int (Int32.ofNat i)), z] [.int (Int32.ofNat (o + i)), .ref b])) := cl.trans (by
        refine XS.iload Xl.here hexec rfl (hb hbytes d3) rfl ?_
        refine XS.iload Xl.here hexec rfl (hb hbytes d5) rfl ?_
        refine XS.icmpNo Xl.here hexec rfl (hb hbytes d7) rfl (ii_ge_f (lt32 (by omega) (by omega))) ?_
        refine XS.aloadN Xl.here hexec rfl (hb hbytes d10) rfl rfl ?_
        refine XS.iloadN Xl.here hexec rfl (hb hbytes d11) rfl ?_
        exact Steps.refl _)
      have c4 : Steps p.tables e below (s₁.setTop (entryFrame m #[.ref b, .int (Int32.ofNat o), .ref d, .int (Int32.ofNat q), .int (Int32.ofNat len)] 7)) (Tl.setTop (mkF m 13 #[.val (.ref b), .val (.int (Int32.ofNat (o + i))), .val (.ref d), .val (.int (Int32.ofNat (q + i))), .val (.int (Int32.ofNat len)), .val (.int (Int32.ofNat i)), z] [.int (cv A (o + i))])) := c3.trans (by
        refine Xl.aget hexec hAl rfl (hA.get (i := o + i) (by omega)) rfl rfl (hb hbytes d12) ?_
        exact Steps.refl _)
      have c5 : Steps p.tables e below (s₁.setTop (entryFrame m #[.ref b, .int (Int32.ofNat o), .ref d, .int (Int32.ofNat q), .int (Int32.ofNat len)] 7)) (Tl.setTop (mkF m 15 #[.val (.ref b), .val (.int (Int32.ofNat (o + i))), .val (.ref d), .val (.int (Int32.ofNat (q + i))), .val (.int (Int32.ofNat len)), .val (.int (Int32.ofNat i)), .val (.int (cv A (o + i)))] [])) := c4.trans (by
        refine XS.istoreS Xl.here hexec rfl (hb hbytes d13) rfl rfl hz ?_
        exact Steps.refl _)
      have c6 : Steps p.tables e below (s₁.setTop (entryFrame m #[.ref b, .int (Int32.ofNat o), .ref d, .int (Int32.ofNat q), .int (Int32.ofNat len)] 7)) (Tl.setTop (mkF m 31 #[.val (.ref b), .val (.int (Int32.ofNat (o + i))), .val (.ref d), .val (.int (Int32.ofNat (q + i))), .val (.int (Int32.ofNat len)), .val (.int (Int32.ofNat i)), .val (.int (cv A (o + i)))] [.int (lo8 (cv A (o + i))), .int (Int32.ofNat (q + i)), .ref d])) := c5.trans (by
        refine XS.iload Xl.here hexec rfl (hb hbytes d15) rfl ?_
        refine sipushV Xl.here hexec rfl 255 (hb hbytes d17) (by decide) ?_
        refine XS.icmpYes Xl.here hexec rfl (pc0 := 20) rfl (hb hbytes d20) rfl (ii_le_t (hp i (by omega))) (by decide) rfl ?_
        refine XS.aloadN Xl.here hexec rfl (hb hbytes d26) rfl rfl ?_
        refine XS.iloadN Xl.here hexec rfl (hb hbytes d27) rfl ?_
        refine XS.iload Xl.here hexec rfl (hb hbytes d28) rfl ?_
        refine i2b Xl.here hexec rfl (hb hbytes d30) rfl ?_
        exact Steps.refl _)
      obtain ⟨T7, X7, p7, st7⟩ := Xl.aput hexec hBk rfl hlt rfl (fits_lo8 (cv A (o + i))) (g := (mkF m 31 #[.val (.ref b), .val (.int (Int32.ofNat (o + i))), .val (.ref d), .val (.int (Int32.ofNat (q + i))), .val (.int (Int32.ofNat len)), .val (.int (Int32.ofNat i)), .val (.int (cv A (o + i)))] [.int (lo8 (cv A (o + i))), .int (Int32.ofNat (q + i)), .ref d])) rfl (rest := []) rfl (hb hbytes d31)
      have c8 : Steps p.tables e below (s₁.setTop (entryFrame m #[.ref b, .int (Int32.ofNat o), .ref d, .int (Int32.ofNat q), .int (Int32.ofNat len)] 7)) (T7.setTop (mkF m 32 #[.val (.ref b), .val (.int (Int32.ofNat (o + i))), .val (.ref d), .val (.int (Int32.ofNat (q + i))), .val (.int (Int32.ofNat len)), .val (.int (Int32.ofNat i)), .val (.int (cv A (o + i)))] [])) := c6.trans (st7 _ (Steps.refl _))
      have c9 : Steps p.tables e below (s₁.setTop (entryFrame m #[.ref b, .int (Int32.ofNat o), .ref d, .int (Int32.ofNat q), .int (Int32.ofNat len)] 7)) (T7.setTop (mkF m 3 #[.val (.ref b), .val (.int (Int32.ofNat (o + i) + 1)), .val (.ref d), .val (.int (Int32.ofNat (q + i) + 1)), .val (.int (Int32.ofNat len)), .val (.int (Int32.ofNat i + 1)), .val (.int (cv A (o + i)))] [])) := c8.trans (by
        refine iincV X7.here hexec rfl 1 (hb hbytes d32) (by decide) rfl rfl ?_
        refine iincV X7.here hexec rfl 1 (hb hbytes d35) (by decide) rfl rfl ?_
        refine iincV X7.here hexec rfl 1 (hb hbytes d38) (by decide) rfl rfl ?_
        refine XS.goto X7.here hexec rfl (pc0 := 41) rfl (hb hbytes d41) (by decide) rfl ?_
        exact Steps.refl _)
      have c10 : Steps p.tables e below (s₁.setTop (entryFrame m #[.ref b, .int (Int32.ofNat o), .ref d, .int (Int32.ofNat q), .int (Int32.ofNat len)] 7)) (T7.setTop (mkF m 3 #[.val (.ref b), .val (.int (Int32.ofNat (o + (i + 1)))), .val (.ref d), .val (.int (Int32.ofNat (q + (i + 1)))), .val (.int (Int32.ofNat len)), .val (.int (Int32.ofNat (i + 1))), .val (.int (cv A (o + i)))] [])) := by
        have := c9
        rw [succ32, succ32, succ32] at this
        exact this
      exact ih (i + 1) (by omega) _ (Or.inr ⟨_, rfl, rfl⟩) T7 _ (by rw [copyLocs_step, ← List.append_assoc]; exact X7) (pl.trans p7) (fl.step (by omega) hlt (by simp)) c10
  obtain ⟨T9, B9, z9, X9, p9, f9, g9⟩ := loop len 0 (by omega) .unset (Or.inl rfl) s₁ B (by simpa [copyLocs] using X0) ⟨hB0.1, fun _ _ => rfl, rfl⟩ (Laid.zero _ _ _) c2
  have c11 : Steps p.tables e below (s₁.setTop (entryFrame m #[.ref b, .int (Int32.ofNat o), .ref d, .int (Int32.ofNat q), .int (Int32.ofNat len)] 7)) (T9.setTop (mkF m 46 #[.val (.ref b), .val (.int (Int32.ofNat (o + len))), .val (.ref d), .val (.int (Int32.ofNat (q + len))), .val (.int (Int32.ofNat len)), .val (.int (Int32.ofNat len)), z9] [.int (Int32.ofNat len)])) := g9.trans (by
    refine XS.iload X9.here hexec rfl (hb hbytes d3) rfl ?_
    refine XS.iload X9.here hexec rfl (hb hbytes d5) rfl ?_
    refine XS.icmpYes X9.here hexec rfl (pc0 := 7) rfl (hb hbytes d7) rfl (ii_ge_t (nlt32 (by omega) (Nat.le_refl _))) (by decide) rfl ?_
    refine XS.iload X9.here hexec rfl (hb hbytes d44) rfl ?_
    exact Steps.refl _)
  exact ⟨T9, some (.int (Int32.ofNat len)), _, _, _, X9, by simp, rfl, rfl, (fun h => by cases h), ⟨rfl, B9, p9.from hh0, f9⟩, fun fs hl => c11.trans (X9.ireturnOut hexec hret rfl (Or.inl rfl) (hb hbytes d46) hl)⟩
end Cmp5
namespace Cmp3
def yN : MethodName := ⟨"java/lang/StringUTF16", "compress", "([CII)[B"⟩
abbrev yB : ByteArray := jdk_52_method_16_code
theorem d0 : decode yB 0 = .ok (.iload_n 2, 1) := by decide +kernel
theorem d1 : decode yB 1 = .ok (.newarray .byte, 2) := by decide +kernel
theorem d3 : decode yB 3 = .ok (.astore_n 3, 1) := by decide +kernel
theorem d4 : decode yB 4 = .ok (.aload_n 0, 1) := by decide +kernel
theorem d5 : decode yB 5 = .ok (.iload_n 1, 1) := by decide +kernel
theorem d6 : decode yB 6 = .ok (.aload_n 3, 1) := by decide +kernel
theorem d7 : decode yB 7 = .ok (.iconst 0, 1) := by decide +kernel
theorem d8 : decode yB 8 = .ok (.iload_n 2, 1) := by decide +kernel
theorem d9 : decode yB 9 = .ok (.invokestatic 115, 3) := by decide +kernel
theorem d12 : decode yB 12 = .ok (.istore 4, 2) := by decide +kernel
theorem d14 : decode yB 14 = .ok (.iload 4, 2) := by decide +kernel
theorem d16 : decode yB 16 = .ok (.iload_n 2, 1) := by decide +kernel
theorem d17 : decode yB 17 = .ok (.if_icmp (.eq) 40, 3) := by decide +kernel
theorem d57 : decode yB 57 = .ok (.aload_n 3, 1) := by decide +kernel
theorem d58 : decode yB 58 = .ok (.areturn, 1) := by decide +kernel
def site : List Cond := [.arrayClass .byte, Cmp5.tab] ++ staticW U16 115 Cmp5.yN
def tab : Cond := tabOf yN yB 6 (some (.array .byte)) site
def P (b : Addr) (A : Cell) (o len : Nat) (args : Array Value) (s : State) : Prop := args = #[.ref b, .int (Int32.ofNat o), .int (Int32.ofNat len)] ∧ Ch b A s ∧ o + len ≤ A.slots.size ∧ len ≤ 536870912 ∧ ∀ i, i < len → ¬ 255 < cv A (o + i)
def E (b : Addr) (A : Cell) (o len : Nat) (r : Option Value) (s u : State) : Prop := NewArr .byte "[B" len (fun j => .int (lo8 (cv A (o + j)))) r s u ∧ u.heap.size = s.heap.size + 1
/-- no char of the range above 255: a new byte[] of their low bytes -/
theorem law (l : Launch) (b : Addr) (A : Cell) (o len : Nat) : Law l yN 3 3 1 18 yB 6 (some (.array .byte)) site (P b A o len) (E b A o len) [] 1 len := by
  refine Law.of_walk (plainFor_of_name (by decide +kernel)) (by decide +kernel) (by decide +kernel) (by decide) (fun _ _ h => by rw [h.1]; rfl) (fun _ U U' hal hh h => ⟨h.1, h.2.1.mv hal hh, h.2.2⟩) (fun r U U' V V' h1 hal h2 h => ⟨NewArr.mv r U U' V V' h1 hal h2 h.1, by rw [h1, h2]; exact h.2⟩) ?_
  intro p e s m args below meth c s₁ X0 hexec hbytes hml hret hlk hnm hown hh0 W hP
  obtain ⟨rfl, hA, l1, l2, hp⟩ := hP
  have a31 := hA.1.2.2.2
  have c1 : Steps p.tables e below (s₁.setTop (entryFrame m #[.ref b, .int (Int32.ofNat o), .int (Int32.ofNat len)] 6)) (s₁.setTop (mkF m 0 #[.val (.ref b), .val (.int (Int32.ofNat o)), .val (.int (Int32.ofNat len)), .unset, .unset, .unset] [])) := entry rfl
  have c2 : Steps p.tables e below (s₁.setTop (entryFrame m #[.ref b, .int (Int32.ofNat o), .int (Int32.ofNat len)] 6)) (s₁.setTop (mkF m 1 #[.val (.ref b), .val (.int (Int32.ofNat o)), .val (.int (Int32.ofNat len)), .unset, .unset, .unset] [.int (Int32.ofNat len)])) := c1.trans (by
    refine XS.iloadN X0.here hexec rfl (hb hbytes d0) rfl ?_
    exact Steps.refl _)
  obtain ⟨T3, B3, X3, ba3, bs3, bv3, bh3, bf3, st3⟩ := X0.anew hexec (atype := .byte) (wk W (.arrayClass .byte)) rfl (by show len * 1 ≤ _; omega) (by omega) (g := (mkF m 1 #[.val (.ref b), .val (.int (Int32.ofNat o)), .val (.int (Int32.ofNat len)), .unset, .unset, .unset] [.int (Int32.ofNat len)])) rfl (hb hbytes d1) (rest := []) rfl (Nat.le_refl _) (by show 0 + len ≤ len; omega)
  rw [hh0] at ba3 st3
  have kp3 : XT.Kept s T3 := (XT.Kept.of_eq hh0).push bh3
  have hA3 := hA.keep X3.warmed.alike (kp3 _ _ hA.1.1)
  have hne : b ≠ s.heap.size := hA.1.ne
  have c4 : Steps p.tables e below (s₁.setTop (entryFrame m #[.ref b, .int (Int32.ofNat o), .int (Int32.ofNat len)] 6)) (T3.setTop (mkF m 3 #[.val (.ref b), .val (.int (Int32.ofNat o)), .val (.int (Int32.ofNat len)), .unset, .unset, .unset] [.ref s.heap.size])) := c2.trans (st3 _ (Steps.refl _))
  have c5 : Steps p.tables e below (s₁.setTop (entryFrame m #[.ref b, .int (Int32.ofNat o), .int (Int32.ofNat len)] 6)) (T3.setTop (mkF m 9 #[.val (.ref b), .val (.int (Int32.ofNat o)), .val (.int (Int32.ofNat len)), .val (.ref s.heap.size), .unset, .unset] [.int (Int32.ofNat len), .int 0, .ref s.heap.size, .int (Int32.ofNat o), .ref b])) := c4.trans (by
    refine XS.astoreN X3.here hexec rfl (hb hbytes d3) rfl rfl rfl ?_
    refine XS.aloadN X3.here hexec rfl (hb hbytes d4) rfl rfl ?_
    refine XS.iloadN X3.here hexec rfl (hb hbytes d5) rfl ?_
    refine XS.aloadN X3.here hexec rfl (hb hbytes d6) rfl rfl ?_
    refine iconstV X3.here hexec rfl 0 (hb hbytes d7) (by decide) ?_
    refine XS.iloadN X3.here hexec rfl (hb hbytes d8) rfl ?_
    exact Steps.refl _)
  obtain ⟨v6, T6, X6, E6, g6⟩ := X3.callS hexec (Cmp5.law l b A s.heap.size B3 o 0 len) hown (wks W (staticW U16 115 Cmp5.yN)) (wk W Cmp5.tab) (W := 0) (Nat.le_of_ble_eq_true rfl) (Nat.le_of_ble_eq_true rfl) (Nat.le_refl _) (by show 0 + len + 0 ≤ len; omega) (g := (mkF m 9 #[.val (.ref b), .val (.int (Int32.ofNat o)), .val (.int (Int32.ofNat len)), .val (.ref s.heap.size), .unset, .unset] [.int (Int32.ofNat len), .int (Int32.ofNat 0), .ref s.heap.size, .int (Int32.ofNat o), .ref b])) rfl (by rw [hml]; rfl) c5 (argsL := [.ref b, .int (Int32.ofNat o), .ref s.heap.size, .int (Int32.ofNat 0), .int (Int32.ofNat len)]) (rest := []) rfl rfl (by show 2 * 0 + 0 ≤ _; decide) (hb hbytes d9) (⟨rfl, hA3, ba3, hne, l1, by rw [bs3]; simp, hp⟩)
  obtain ⟨rfl, B6, p6, f6⟩ := E6
  have c7 : Steps p.tables e below (s₁.setTop (entryFrame m #[.ref b, .int (Int32.ofNat o), .int (Int32.ofNat len)] 6)) (T6.setTop (mkF m 12 #[.val (.ref b), .val (.int (Int32.ofNat o)), .val (.int (Int32.ofNat len)), .val (.ref s.heap.size), .unset, .unset] [.int (Int32.ofNat len)])) := g6
  have c8 : Steps p.tables e below (s₁.setTop (entryFrame m #[.ref b, .int (Int32.ofNat o), .int (Int32.ofNat len)] 6)) (T6.setTop (mkF m 58 #[.val (.ref b), .val (.int (Int32.ofNat o)), .val (.int (Int32.ofNat len)), .val (.ref s.heap.size), .val (.int (Int32.ofNat len)), .unset] [.ref s.heap.size])) := c7.trans (by
    refine XS.istore X6.here hexec rfl (hb hbytes d12) rfl rfl ?_
    refine XS.iload X6.here hexec rfl (hb hbytes d14) rfl ?_
    refine XS.iloadN X6.here hexec rfl (hb hbytes d16) rfl ?_
    refine XS.icmpYes X6.here hexec rfl (pc0 := 17) rfl (hb hbytes d17) rfl (ii_eq_t rfl) (by decide) rfl ?_
    refine XS.aloadN X6.here hexec rfl (hb hbytes d57) rfl rfl ?_
    exact Steps.refl _)
  have X8 := X6.wide (L' := []) (cells' := 1) (slots' := len) (fun x hx hlt => by
    simp only [List.nil_append, copyLocs, List.mem_map, List.mem_range] at hx
    obtain ⟨i, -, rfl⟩ := hx
    exact absurd hlt (Nat.lt_irrefl _)) (Nat.le_refl _) (by omega)
  exact ⟨T6, some (.ref s.heap.size), _, _, _, X8, rfl, rfl, rfl, (fun h => by cases h), ⟨⟨rfl, B6, ba3.like (X3.warmed.alike.symm.trans X6.warmed.alike) p6.1 f6.1 f6.2.1 f6.2.2.1, f6.2.1.trans bv3, by rw [X6.warmed.alike.findClass, f6.1]; exact bf3, by rw [f6.2.2.1, bs3]; simp, fun j hj => by rw [f6.2.2.2 j, if_pos (by omega)]; rfl, kp3.put p6 (Nat.le_refl _)⟩, by rw [p6.2.2, bh3, hh0]; simp⟩, fun fs hl => c8.trans (X8.areturnOut hexec rfl hret rfl (hb hbytes d58) hl)⟩
end Cmp3
namespace CodL
def yN : MethodName := ⟨"java/lang/StringUTF16", "coderFromArrayLen", "([BI)B"⟩
abbrev yB : ByteArray := jdk_52_method_15_code
theorem d0 : decode yB 0 = .ok (.iload_n 1, 1) := by decide +kernel
theorem d1 : decode yB 1 = .ok (.aload_n 0, 1) := by decide +kernel
theorem d2 : decode yB 2 = .ok (.arraylength, 1) := by decide +kernel
theorem d3 : decode yB 3 = .ok (.isub, 1) := by decide +kernel
theorem d4 : decode yB 4 = .ok (.bipush 31, 2) := by decide +kernel
theorem d6 : decode yB 6 = .ok (.iushr, 1) := by decide +kernel
theorem d7 : decode yB 7 = .ok (.i2b, 1) := by decide +kernel
theorem d8 : decode yB 8 = .ok (.ireturn, 1) := by decide +kernel
def site : List Cond := []
def tab : Cond := tabOf yN yB 2 (some .byte) site
def P (d : Addr) (B : Cell) (args : Array Value) (s : State) : Prop := args = #[.ref d, .int (Int32.ofNat B.slots.size)] ∧ Arr .byte d B s
def E (r : Option Value) (s u : State) : Prop := XT.PureE (some (.int 0)) r s u
/-- an array as long as the number of chars: LATIN1 -/
theorem law (l : Launch) (d : Addr) (B : Cell) : Law l yN 2 2 0 0 yB 2 (some .byte) site (P d B) E [] 0 0 := by
  refine Law.of_walk (plainFor_of_name (by decide +kernel)) (by decide +kernel) (by decide +kernel) (by decide) (fun _ _ h => by rw [h.1]; rfl) (fun _ U U' hal hh h => ⟨h.1, h.2.mv hal hh⟩) (fun r U U' V V' h1 hal h2 h => XT.PureE.mv r U U' V V' h1 hal h2 h) ?_
  intro p e s m args below meth c s₁ X0 hexec hbytes hml hret hlk hnm hown hh0 W hP
  obtain ⟨rfl, hB⟩ := hP
  have hB0 := hB.mv X0.warmed.alike hh0
  have c1 : Steps p.tables e below (s₁.setTop (entryFrame m #[.ref d, .int (Int32.ofNat B.slots.size)] 2)) (s₁.setTop (mkF m 0 #[.val (.ref d), .val (.int (Int32.ofNat B.slots.size))] [])) := entry rfl
  have c2 : Steps p.tables e below (s₁.setTop (entryFrame m #[.ref d, .int (Int32.ofNat B.slots.size)] 2)) (s₁.setTop (mkF m 2 #[.val (.ref d), .val (.int (Int32.ofNat B.slots.size))] [.ref d, .int (Int32.ofNat B.slots.size)])) := c1.trans (by
    refine XS.iloadN X0.here hexec rfl (hb hbytes d0) rfl ?_
    refine XS.aloadN X0.here hexec rfl (hb hbytes d1) rfl rfl ?_
    exact Steps.refl _)
  have c3 : Steps p.tables e below (s₁.setTop (entryFrame m #[.ref d, .int (Int32.ofNat B.slots.size)] 2)) (s₁.setTop (mkF m 8 #[.val (.ref d), .val (.int (Int32.ofNat B.slots.size))] [.int (lo8 (ushr (Int32.ofNat B.slots.size - Int32.ofNat B.slots.size) 31))])) := c2.trans (by
    refine X0.alen hexec hB0 rfl rfl (hb hbytes d2) ?_
    refine XS.isub X0.here hexec rfl (hb hbytes d3) rfl ?_
    refine bipushV X0.here hexec rfl 31 (hb hbytes d4) (by decide) ?_
    refine iushr X0.here hexec rfl (hb hbytes d6) rfl ?_
    refine i2b X0.here hexec rfl (hb hbytes d7) rfl ?_
    exact Steps.refl _)
  have e0 : lo8 (ushr (Int32.ofNat B.slots.size - Int32.ofNat B.slots.size) 31) = 0 := by rw [Int32.sub_self]; decide
  rw [e0] at c3
  exact ⟨s₁, some (.int 0), _, _, _, X0, rfl, rfl, rfl, (fun h => by cases h), ⟨rfl, hh0⟩, fun fs hl => c3.trans (X0.ireturnOut hexec hret rfl (Or.inr (Or.inr (Or.inl rfl))) (hb hbytes d8) hl)⟩
end CodL
/-- the String at a is Latin-1 over a new byte[] (the heap's one new cell): the low bytes of the len chars of A from o on; every cell but a is kept -/
def Got (a : Addr) (D : Cell) (fV fC : Field) (A : Cell) (o len : Nat) (r : Option Value) (s u : State) : Prop := r = none ∧ ∃ D' V : Cell, Blank "java/lang/String" a D' u ∧ Same D D' [fV.slot, fC.slot] ∧ D'.slots[fV.slot]? = some (.ref s.heap.size) ∧ D'.slots[fC.slot]? = some (.int 0) ∧ Arr .byte s.heap.size V u ∧ V.vm = .none ∧ u.vm.findClass "[B" = some V.cls ∧ V.slots.size = len ∧ (∀ j, j < len → V.slots[j]? = some (.int (lo8 (cv A (o + j))))) ∧ (∀ (y : Addr) (c : Cell), y ≠ a → s.heap[y]? = some c → u.heap[y]? = some c) ∧ u.heap.size = s.heap.size + 1
theorem Got.mv {a : Addr} {D A : Cell} {fV fC : Field} {o len : Nat} : ∀ r (U U' V V' : State), U'.heap = U.heap → V.vm.Alike V'.vm → V'.heap = V.heap → Got a D fV fC A o len r U V → Got a D fV fC A o len r U' V' :=
  fun r U U' V V' h1 hal h2 ⟨e0, D', X, a1, a2, a3, a4, a5, a6, a7, a8, a9, a10, a11⟩ => ⟨e0, D', X, a1.mv hal h2, a2, by rw [h1]; exact a3, a4, by rw [h1]; exact a5.mv hal h2, a6, by rw [hal.findClass]; exact a7, a8, a9, by rw [h1, h2]; exact a10, by rw [h1, h2]; exact a11⟩
namespace New4
def yN : MethodName := ⟨"java/lang/String", "<init>", "([CIILjava/lang/Void;)V"⟩
abbrev yB : ByteArray := jdk_42_method_149_code
theorem d0 : decode yB 0 = .ok (.aload_n 0, 1) := by decide +kernel
theorem d1 : decode yB 1 = .ok (.invokespecial 1, 3) := by decide +kernel
theorem d4 : decode yB 4 = .ok (.iload_n 3, 1) := by decide +kernel
theorem d5 : decode yB 5 = .ok (.ifCond (.ne) 22, 3) := by decide +kernel
theorem d27 : decode yB 27 = .ok (.getstatic 38, 3) := by decide +kernel
theorem d30 : decode yB 30 = .ok (.ifCond (.eq) 28, 3) := by decide +kernel
theorem d33 : decode yB 33 = .ok (.aload_n 1, 1) := by decide +kernel
theorem d34 : decode yB 34 = .ok (.iload_n 2, 1) := by decide +kernel
theorem d35 : decode yB 35 = .ok (.iload_n 3, 1) := by decide +kernel
theorem d36 : decode yB 36 = .ok (.invokestatic 177, 3) := by decide +kernel
theorem d39 : decode yB 39 = .ok (.astore 5, 2) := by decide +kernel
theorem d41 : decode yB 41 = .ok (.aload_n 0, 1) := by decide +kernel
theorem d42 : decode yB 42 = .ok (.aload 5, 2) := by decide +kernel
theorem d44 : decode yB 44 = .ok (.iload_n 3, 1) := by decide +kernel
theorem d45 : decode yB 45 = .ok (.invokestatic 47, 3) := by decide +kernel
theorem d48 : decode yB 48 = .ok (.putfield 15, 3) := by decide +kernel
theorem d51 : decode yB 51 = .ok (.aload_n 0, 1) := by decide +kernel
theorem d52 : decode yB 52 = .ok (.aload 5, 2) := by decide +kernel
theorem d54 : decode yB 54 = .ok (.putfield 9, 3) := by decide +kernel
theorem d57 : decode yB 57 = .ok (.return_, 1) := by decide +kernel
def site : List Cond := [.fieldLink "java/lang/String" 38 "java/lang/String" "COMPACT_STRINGS" "Z", Cmp3.tab, CodL.tab, .laysFinal "java/lang/String" "java/lang/String" "value" "[B", .fieldLink "java/lang/String" 9 "java/lang/String" "value" "[B", .laysFinal "java/lang/String" "java/lang/String" "coder" "B", .fieldLink "java/lang/String" 15 "java/lang/String" "coder" "B"] ++ objW "java/lang/String" 1 ++ staticW "java/lang/String" 177 Cmp3.yN ++ staticW "java/lang/String" 47 CodL.yN
def tab : Cond := tabOf yN yB 6 none site
def P (a : Addr) (D : Cell) (fV fC : Field) (b : Addr) (A : Cell) (z : Int32) (o len : Nat) (args : Array Value) (s : State) : Prop := args = #[.ref a, .ref b, .int (Int32.ofNat o), .int (Int32.ofNat len), .null] ∧ Blank "java/lang/String" a D s ∧ Found "java/lang/String" "value" "[B" fV s ∧ Found "java/lang/String" "coder" "B" fC s ∧ Ch b A s ∧ StaticIs s "java/lang/String" "COMPACT_STRINGS" "Z" (.int z) ∧ ¬ z = 0 ∧ 0 < len ∧ o + len ≤ A.slots.size ∧ len ≤ 536870912 ∧ ∀ i, i < len → ¬ 255 < cv A (o + i)
def E (a : Addr) (D : Cell) (fV fC : Field) (A : Cell) (o len : Nat) (r : Option Value) (s u : State) : Prop := Got a D fV fC A o len r s u
/-- len > 0, no char of the range above 255: a Latin-1 String of their low bytes -/
theorem law (l : Launch) (a : Addr) (D : Cell) (fV fC : Field) (b : Addr) (A : Cell) (z : Int32) (o len : Nat) : Law l yN 5 4 2 35 yB 6 none site (P a D fV fC b A z o len) (E a D fV fC A o len) [⟨a, fC.slot⟩, ⟨a, fV.slot⟩] 1 len := by
  refine Law.of_walk (plainFor_of_name (by decide +kernel)) (by decide +kernel) (by decide +kernel) (by decide) (fun _ _ h => by rw [h.1]; rfl) (fun _ U U' hal hh h => ⟨h.1, h.2.1.mv hal hh, h.2.2.1.al hal, h.2.2.2.1.al hal, h.2.2.2.2.1.mv hal hh, h.2.2.2.2.2.1.there hal hh, h.2.2.2.2.2.2⟩) (fun r U U' V V' h1 hal h2 h => Got.mv r U U' V V' h1 hal h2 h) ?_
  intro p e s m args below meth c s₁ X0 hexec hbytes hml hret hlk hnm hown hh0 W hP
  obtain ⟨rfl, hB, f1, f2, hA, s1, hz, l0, l1, l2, hp⟩ := hP
  have a31 := hA.1.2.2.2
  have c1 : Steps p.tables e below (s₁.setTop (entryFrame m #[.ref a, .ref b, .int (Int32.ofNat o), .int (Int32.ofNat len), .null] 6)) (s₁.setTop (mkF m 0 #[.val (.ref a), .val (.ref b), .val (.int (Int32.ofNat o)), .val (.int (Int32.ofNat len)), .val .null, .unset] [])) := entry rfl
  have c2 : Steps p.tables e below (s₁.setTop (entryFrame m #[.ref a, .ref b, .int (Int32.ofNat o), .int (Int32.ofNat len), .null] 6)) (s₁.setTop (mkF m 1 #[.val (.ref a), .val (.ref b), .val (.int (Int32.ofNat o)), .val (.int (Int32.ofNat len)), .val .null, .unset] [.ref a])) := c1.trans (by
    refine XS.aloadN X0.here hexec rfl (hb hbytes d0) rfl rfl ?_
    exact Steps.refl _)
  obtain ⟨T3, X3, q3, st3⟩ := X0.oinit hexec hown (wks W (objW "java/lang/String" 1)) (g := (mkF m 1 #[.val (.ref a), .val (.ref b), .val (.int (Int32.ofNat o)), .val (.int (Int32.ofNat len)), .val .null, .unset] [.ref a])) rfl (by rw [hml]; rfl) (rest := []) rfl (hb hbytes d1) (W := 0) (by show 2 * 0 + 0 ≤ _; decide) (Nat.le_of_ble_eq_true rfl) (Nat.le_of_ble_eq_true rfl)
  have hh3 := q3.trans hh0
  have c4 : Steps p.tables e below (s₁.setTop (entryFrame m #[.ref a, .ref b, .int (Int32.ofNat o), .int (Int32.ofNat len), .null] 6)) (T3.setTop (mkF m 27 #[.val (.ref a), .val (.ref b), .val (.int (Int32.ofNat o)), .val (.int (Int32.ofNat len)), .val .null, .unset] [])) := (c2.trans (st3 _ (Steps.refl _))).trans (by
    refine XS.iloadN X3.here hexec rfl (hb hbytes d4) rfl ?_
    refine XS.ifYes X3.here hexec rfl (pc0 := 5) rfl (hb hbytes d5) rfl (i0_ne_t (nz32 (by omega) l0)) (by decide) rfl ?_
    exact Steps.refl _)
  obtain ⟨T5, X5, q5, st5⟩ := X3.sget hexec hown (wk W (.fieldLink "java/lang/String" 38 "java/lang/String" "COMPACT_STRINGS" "Z")) s1 (fun _ _ h => by rw [hh3]; exact h) (g := (mkF m 27 #[.val (.ref a), .val (.ref b), .val (.int (Int32.ofNat o)), .val (.int (Int32.ofNat len)), .val .null, .unset] [])) rfl (hb hbytes d27)
  have hh5 := q5.trans hh3
  have c6 : Steps p.tables e below (s₁.setTop (entryFrame m #[.ref a, .ref b, .int (Int32.ofNat o), .int (Int32.ofNat len), .null] 6)) (T5.setTop (mkF m 30 #[.val (.ref a), .val (.ref b), .val (.int (Int32.ofNat o)), .val (.int (Int32.ofNat len)), .val .null, .unset] [.int z])) := c4.trans (st5 _ (Steps.refl _))
  have c7 : Steps p.tables e below (s₁.setTop (entryFrame m #[.ref a, .ref b, .int (Int32.ofNat o), .int (Int32.ofNat len), .null] 6)) (T5.setTop (mkF m 36 #[.val (.ref a), .val (.ref b), .val (.int (Int32.ofNat o)), .val (.int (Int32.ofNat len)), .val .null, .unset] [.int (Int32.ofNat len), .int (Int32.ofNat o), .ref b])) := c6.trans (by
    refine XS.ifNo X5.here hexec rfl (hb hbytes d30) rfl (i0_eq_f hz) ?_
    refine XS.aloadN X5.here hexec rfl (hb hbytes d33) rfl rfl ?_
    refine XS.iloadN X5.here hexec rfl (hb hbytes d34) rfl ?_
    refine XS.iloadN X5.here hexec rfl (hb hbytes d35) rfl ?_
    exact Steps.refl _)
  obtain ⟨v8, T8, X8, E8, g8⟩ := X5.callS hexec (Cmp3.law l b A o len) hown (wks W (staticW "java/lang/String" 177 Cmp3.yN)) (wk W Cmp3.tab) (W := 0) (Nat.le_of_ble_eq_true rfl) (Nat.le_of_ble_eq_true rfl) (Nat.le_refl _) (by show 0 + len ≤ len; omega) (g := (mkF m 36 #[.val (.ref a), .val (.ref b), .val (.int (Int32.ofNat o)), .val (.int (Int32.ofNat len)), .val .null, .unset] [.int (Int32.ofNat len), .int (Int32.ofNat o), .ref b])) rfl (by rw [hml]; rfl) c7 (argsL := [.ref b, .int (Int32.ofNat o), .int (Int32.ofNat len)]) (rest := []) rfl rfl (by show 2 * 0 + 0 ≤ _; decide) (hb hbytes d36) (⟨rfl, hA.mv X5.warmed.alike hh5, l1, l2, hp⟩)
  obtain ⟨e8, z8⟩ := E8
  obtain ⟨rfl, N, n1, n2, n3, n4, n5, n6⟩ := NewArr.mv _ T5 s _ _ hh5.symm (Vm.Alike.refl _) rfl e8
  rw [hh5] at z8
  have hB1 := hB.keep X8.warmed.alike (n6 _ _ hB.1)
  have hne : s.heap.size ≠ a := (Nat.ne_of_lt (Array.getElem?_eq_some_iff.mp hB.1).1).symm
  have c9 : Steps p.tables e below (s₁.setTop (entryFrame m #[.ref a, .ref b, .int (Int32.ofNat o), .int (Int32.ofNat len), .null] 6)) (T8.setTop (mkF m 39 #[.val (.ref a), .val (.ref b), .val (.int (Int32.ofNat o)), .val (.int (Int32.ofNat len)), .val .null, .unset] [.ref s.heap.size])) := g8
  have c10 : Steps p.tables e below (s₁.setTop (entryFrame m #[.ref a, .ref b, .int (Int32.ofNat o), .int (Int32.ofNat len), .null] 6)) (T8.setTop (mkF m 45 #[.val (.ref a), .val (.ref b), .val (.int (Int32.ofNat o)), .val (.int (Int32.ofNat len)), .val .null, .val (.ref s.heap.size)] [.int (Int32.ofNat N.slots.size), .ref s.heap.size, .ref a])) := by
    have hc : Steps p.tables e below (s₁.setTop (entryFrame m #[.ref a, .ref b, .int (Int32.ofNat o), .int (Int32.ofNat len), .null] 6)) (T8.setTop (mkF m 45 #[.val (.ref a), .val (.ref b), .val (.int (Int32.ofNat o)), .val (.int (Int32.ofNat len)), .val .null, .val (.ref s.heap.size)] [.int (Int32.ofNat len), .ref s.heap.size, .ref a])) := c9.trans (by
      refine XS.astore X8.here hexec rfl (hb hbytes d39) rfl rfl rfl ?_
      refine XS.aloadN X8.here hexec rfl (hb hbytes d41) rfl rfl ?_
      refine XS.aload X8.here hexec rfl (hb hbytes d42) rfl rfl ?_
      refine XS.iloadN X8.here hexec rfl (hb hbytes d44) rfl ?_
      exact Steps.refl _)
    rw [n4]; exact hc
  obtain ⟨v11, T11, X11, E11, g11⟩ := X8.callS hexec (CodL.law l s.heap.size N) hown (wks W (staticW "java/lang/String" 47 CodL.yN)) (wk W CodL.tab) (W := 1) (Nat.le_of_ble_eq_true rfl) (Nat.le_of_ble_eq_true rfl) (Nat.le_refl _) (by show 0 + len + 0 ≤ len; omega) (g := (mkF m 45 #[.val (.ref a), .val (.ref b), .val (.int (Int32.ofNat o)), .val (.int (Int32.ofNat len)), .val .null, .val (.ref s.heap.size)] [.int (Int32.ofNat N.slots.size), .ref s.heap.size, .ref a])) rfl (by rw [hml]; rfl) c10 (argsL := [.ref s.heap.size, .int (Int32.ofNat N.slots.size)]) (rest := [.ref a]) rfl rfl (by show 2 * 0 + (1 + 0) ≤ _; decide) (hb hbytes d45) (⟨rfl, n1⟩)
  obtain ⟨rfl, q11⟩ := E11
  have hB11 := hB1.mv (X8.warmed.alike.symm.trans X11.warmed.alike) q11
  have c12 : Steps p.tables e below (s₁.setTop (entryFrame m #[.ref a, .ref b, .int (Int32.ofNat o), .int (Int32.ofNat len), .null] 6)) (T11.setTop (mkF m 48 #[.val (.ref a), .val (.ref b), .val (.int (Int32.ofNat o)), .val (.int (Int32.ofNat len)), .val .null, .val (.ref s.heap.size)] [.int 0, .ref a])) := g11
  obtain ⟨T13, X13, p13, bl13, sl13, st13⟩ := X11.finit hexec hown (wk W (.fieldLink "java/lang/String" 15 "java/lang/String" "coder" "B")) (Or.inr ⟨_, (wk W (.laysFinal "java/lang/String" "java/lang/String" "coder" "B"))⟩) (Or.inl ⟨rfl, hnm⟩) f2 (Or.inl rfl) hB11 (t := .byte) (by decide +kernel) rfl (g := (mkF m 48 #[.val (.ref a), .val (.ref b), .val (.int (Int32.ofNat o)), .val (.int (Int32.ofNat len)), .val .null, .val (.ref s.heap.size)] [.int 0, .ref a])) rfl (rest := []) rfl (hb hbytes d48)
  have c14 : Steps p.tables e below (s₁.setTop (entryFrame m #[.ref a, .ref b, .int (Int32.ofNat o), .int (Int32.ofNat len), .null] 6)) (T13.setTop (mkF m 54 #[.val (.ref a), .val (.ref b), .val (.int (Int32.ofNat o)), .val (.int (Int32.ofNat len)), .val .null, .val (.ref s.heap.size)] [.ref s.heap.size, .ref a])) := (c12.trans (st13 _ (Steps.refl _))).trans (by
    refine XS.aloadN X13.here hexec rfl (hb hbytes d51) rfl rfl ?_
    refine XS.aload X13.here hexec rfl (hb hbytes d52) rfl rfl ?_
    exact Steps.refl _)
  obtain ⟨T15, X15, p15, bl15, sl15, st15⟩ := X13.finit hexec hown (wk W (.fieldLink "java/lang/String" 9 "java/lang/String" "value" "[B")) (Or.inr ⟨_, (wk W (.laysFinal "java/lang/String" "java/lang/String" "value" "[B"))⟩) (Or.inl ⟨rfl, hnm⟩) f1 (Or.inl rfl) bl13 (t := (.array .byte)) (by decide +kernel) rfl (g := (mkF m 54 #[.val (.ref a), .val (.ref b), .val (.int (Int32.ofNat o)), .val (.int (Int32.ofNat len)), .val .null, .val (.ref s.heap.size)] [.ref s.heap.size, .ref a])) rfl (rest := []) rfl (hb hbytes d54)
  have c16 : Steps p.tables e below (s₁.setTop (entryFrame m #[.ref a, .ref b, .int (Int32.ofNat o), .int (Int32.ofNat len), .null] 6)) (T15.setTop (mkF m 57 #[.val (.ref a), .val (.ref b), .val (.int (Int32.ofNat o)), .val (.int (Int32.ofNat len)), .val .null, .val (.ref s.heap.size)] [])) := c14.trans (st15 _ (Steps.refl _))
  have ap := apart (Or.inr ⟨_, (wk W (.laysFinal "java/lang/String" "java/lang/String" "value" "[B"))⟩) (Or.inr ⟨_, (wk W (.laysFinal "java/lang/String" "java/lang/String" "coder" "B"))⟩) f1 f2 (t₁ := .array .byte) (t₂ := .byte) (by decide +kernel) (by decide +kernel) (by decide)
  have al := X8.warmed.alike.symm.trans X15.warmed.alike
  have n7 : T11.heap[s.heap.size]? = some N := by rw [q11]; exact n1.1
  exact ⟨T15, none, _, _, _, X15, by simp, rfl, by omega, (fun _ => rfl), ⟨rfl, _, N, bl15, ((Same.refl D _).set _ (by simp)).set _ (by simp), sl15, (Cell.slots_setSlot_ne _ ap).trans sl13, n1.keep al (p15.other hne (p13.other hne n7)), n2, by rw [al.findClass]; exact n3, n4, n5, fun y c h1 h2 => p15.other h1 (p13.other h1 (by rw [q11]; exact n6 y c h2)), by rw [p15.2.2, p13.2.2, q11]; exact z8⟩, fun fs hl => c16.trans (X15.returnOut hexec hret (hb hbytes d57) hl)⟩
end New4
namespace New1
def yN : MethodName := ⟨"java/lang/String", "<init>", "([C)V"⟩
abbrev yB : ByteArray := jdk_42_method_3_code
theorem d0 : decode yB 0 = .ok (.aload_n 0, 1) := by decide +kernel
theorem d1 : decode yB 1 = .ok (.aload_n 1, 1) := by decide +kernel
theorem d2 : decode yB 2 = .ok (.iconst 0, 1) := by decide +kernel
theorem d3 : decode yB 3 = .ok (.aload_n 1, 1) := by decide +kernel
theorem d4 : decode yB 4 = .ok (.arraylength, 1) := by decide +kernel
theorem d5 : decode yB 5 = .ok (.aconst_null, 1) := by decide +kernel
theorem d6 : decode yB 6 = .ok (.invokespecial 27, 3) := by decide +kernel
theorem d9 : decode yB 9 = .ok (.return_, 1) := by decide +kernel
def site : List Cond := [New4.tab] ++ initW "java/lang/String" 27 New4.yN
def tab : Cond := tabOf yN yB 2 none site
def P (a : Addr) (D : Cell) (fV fC : Field) (b : Addr) (A : Cell) (z : Int32) (args : Array Value) (s : State) : Prop := args = #[.ref a, .ref b] ∧ Blank "java/lang/String" a D s ∧ Found "java/lang/String" "value" "[B" fV s ∧ Found "java/lang/String" "coder" "B" fC s ∧ Ch b A s ∧ StaticIs s "java/lang/String" "COMPACT_STRINGS" "Z" (.int z) ∧ ¬ z = 0 ∧ 0 < A.slots.size ∧ A.slots.size ≤ 536870912 ∧ ∀ i, i < A.slots.size → ¬ 255 < cv A i
def E (a : Addr) (D : Cell) (fV fC : Field) (A : Cell) (r : Option Value) (s u : State) : Prop := Got a D fV fC A 0 A.slots.size r s u
/-- new String(chars), not empty, no char above 255: a Latin-1 String of their low bytes -/
theorem law (l : Launch) (a : Addr) (D : Cell) (fV fC : Field) (b : Addr) (A : Cell) (z : Int32) : Law l yN 2 1 3 52 yB 2 none site (P a D fV fC b A z) (E a D fV fC A) [⟨a, fC.slot⟩, ⟨a, fV.slot⟩] 1 A.slots.size := by
  refine Law.of_walk (plainFor_of_name (by decide +kernel)) (by decide +kernel) (by decide +kernel) (by decide) (fun _ _ h => by rw [h.1]; rfl) (fun _ U U' hal hh h => ⟨h.1, h.2.1.mv hal hh, h.2.2.1.al hal, h.2.2.2.1.al hal, h.2.2.2.2.1.mv hal hh, h.2.2.2.2.2.1.there hal hh, h.2.2.2.2.2.2⟩) (fun r U U' V V' h1 hal h2 h => Got.mv r U U' V V' h1 hal h2 h) ?_
  intro p e s m args below meth c s₁ X0 hexec hbytes hml hret hlk hnm hown hh0 W hP
  obtain ⟨rfl, hB, f1, f2, hA, s1, hz, l0, l2, hp⟩ := hP
  have c1 : Steps p.tables e below (s₁.setTop (entryFrame m #[.ref a, .ref b] 2)) (s₁.setTop (mkF m 0 #[.val (.ref a), .val (.ref b)] [])) := entry rfl
  have c2 : Steps p.tables e below (s₁.setTop (entryFrame m #[.ref a, .ref b] 2)) (s₁.setTop (mkF m 6 #[.val (.ref a), .val (.ref b)] [.null, .int (Int32.ofNat A.slots.size), .int 0, .ref b, .ref a])) := c1.trans (by
    refine XS.aloadN X0.here hexec rfl (hb hbytes d0) rfl rfl ?_
    refine XS.aloadN X0.here hexec rfl (hb hbytes d1) rfl rfl ?_
    refine iconstV X0.here hexec rfl 0 (hb hbytes d2) (by decide) ?_
    refine XS.aloadN X0.here hexec rfl (hb hbytes d3) rfl rfl ?_
    refine X0.alen hexec (hA.1.mv X0.warmed.alike hh0) rfl rfl (hb hbytes d4) ?_
    refine XS.aconstNull X0.here hexec rfl (hb hbytes d5) ?_
    exact Steps.refl _)
  obtain ⟨v3, T3, X3, E3, g3⟩ := X0.callN hexec (New4.law l a D fV fC b A z 0 A.slots.size) rfl hown (wks W (initW "java/lang/String" 27 New4.yN)) (W New4.tab (by simp only [site, List.mem_cons, List.mem_append, true_or, or_true])) (W := 0) (Nat.le_of_ble_eq_true rfl) (Nat.le_of_ble_eq_true rfl) (Nat.le_refl _) (by show 0 + A.slots.size ≤ A.slots.size; omega) (g := (mkF m 6 #[.val (.ref a), .val (.ref b)] [.null, .int (Int32.ofNat A.slots.size), .int (Int32.ofNat 0), .ref b, .ref a])) rfl (by rw [hml]; rfl) c2 (argsL := [.ref b, .int (Int32.ofNat 0), .int (Int32.ofNat A.slots.size), .null]) (rest := []) rfl rfl (by show 2 * 0 + 0 ≤ _; decide) (hb hbytes d6) (⟨rfl, hB.mv X0.warmed.alike hh0, f1.al X0.warmed.alike, f2.al X0.warmed.alike, hA.mv X0.warmed.alike hh0, s1.there X0.warmed.alike hh0, hz, l0, by omega, l2, fun i hi => by rw [Nat.zero_add]; exact hp i hi⟩)
  have e0 := Got.mv _ s₁ s _ _ hh0.symm (Vm.Alike.refl _) rfl E3
  obtain rfl := e0.1
  have c4 : Steps p.tables e below (s₁.setTop (entryFrame m #[.ref a, .ref b] 2)) (T3.setTop (mkF m 9 #[.val (.ref a), .val (.ref b)] [])) := g3
  exact ⟨T3, none, _, _, _, X3, by simp, rfl, by omega, (fun _ => rfl), e0, fun fs hl => c4.trans (X3.returnOut hexec hret (hb hbytes d9) hl)⟩
theorem pays {l : Launch} {R : Room} {p : Program} {e : Env} {below : List Frame} {s : State} {sargs : Array Value} {len W : Nat} (a : Addr) (D : Cell) (fV fC : Field) (b : Addr) (A : Cell) (z : Int32) (htab : tab.before sargs s = true) (hfr : 4 ≤ R.frames) (hlo : W + 65 ≤ R.locals) :
    Back l R p e below s sargs yN len W (fun A₁ a₁ => A₁.cells + 1 ≤ R.cells ∧ A₁.slots + A.slots.size ≤ R.slots ∧ P a D fV fC b A z a₁ A₁.U) (fun A₁ _ v₁ B₁ => E a D fV fC A v₁ A₁.U B₁.U ∧ B₁.locs = A₁.locs ++ [⟨a, fC.slot⟩, ⟨a, fV.slot⟩] ∧ B₁.cells = A₁.cells + 1 ∧ B₁.slots = A₁.slots + A.slots.size) :=
  (law l a D fV fC b A z).pays htab hfr (by omega)
end New1
/-- the byte, read back as charAt reads it, is the char -/
theorem lo8_mask {x : Int32} (h0 : ¬ x < 0) (h1 : ¬ 255 < x) : lo8 x &&& 255 = x := by
  have t : ∀ k : Fin 256, lo8 (Int32.ofNat k.val) &&& 255 = Int32.ofNat k.val := by decide +kernel
  rw [Int32.lt_iff_toInt_lt] at h0 h1
  have e0 : (0 : Int32).toInt = 0 := rfl
  have e1 : (255 : Int32).toInt = 255 := rfl
  obtain ⟨k, hk⟩ : ∃ k : Nat, x.toInt = k := ⟨x.toInt.toNat, by omega⟩
  have hx : x = Int32.ofNat k := Int32.toInt_inj.mp (by rw [hk, Int32.toInt_ofNat_small (by omega)])
  rw [hx]
  exact t ⟨k, by omega⟩
end StrChars
namespace StrChars.Road
open Jvm Sem ClassFile Op Lib Jvm.Stand Jvm.Free Jvm.Free.XT
open Jvm.Lib.Cold (StaticIs)
abbrev ST : String := "java/lang/String"
/-- every table word that New1's law asks, flat -/
abbrev words : List Jvm.Cond := [.code New1.yN New1.yB 2 none, .initialized ST, .methodLink ST 27 New4.yN, .instanceMethod New4.yN,
  .code New4.yN New4.yB 6 none, .fieldLink ST 38 ST "COMPACT_STRINGS" "Z", .laysFinal ST ST "value" "[B", .fieldLink ST 9 ST "value" "[B", .laysFinal ST ST "coder" "B", .fieldLink ST 15 ST "coder" "B",
  .methodLink ST 1 Lib.objectInit, .instanceMethod Lib.objectInit, .code Lib.objectInit ⟨#[0xb1]⟩ 1 none, .methodLink ST 177 Cmp3.yN, .static Cmp3.yN, .methodLink ST 47 CodL.yN, .static CodL.yN,
  .code Cmp3.yN Cmp3.yB 6 (some (.array .byte)), .initialized U16, .arrayClass .byte, .methodLink U16 115 Cmp5.yN, .static Cmp5.yN, .code Cmp5.yN Cmp5.yB 7 (some .int), .code CodL.yN CodL.yB 2 (some .byte)]
theorem tab_of {a : Array Value} {s : State} (h : ∀ w ∈ words, w.before a s = true) : New1.tab.before a s = true := by
  have h5 : Cmp5.tab.before a s = true := unparts (wk h (.code Cmp5.yN Cmp5.yB 7 (some .int))) (wks h (.initialized Cmp5.yN.cls :: Cmp5.site))
  have hc : CodL.tab.before a s = true := unparts (wk h (.code CodL.yN CodL.yB 2 (some .byte))) (wks h (.initialized CodL.yN.cls :: CodL.site))
  have q5 : ∀ w ∈ Cmp5.tab :: words, w.before a s = true := fun w hw => (List.mem_cons.mp hw).elim (fun e => e ▸ h5) (h w)
  have h3 : Cmp3.tab.before a s = true := unparts (wk q5 (.code Cmp3.yN Cmp3.yB 6 (some (.array .byte)))) (wks q5 (.initialized Cmp3.yN.cls :: Cmp3.site))
  have q3 : ∀ w ∈ Cmp3.tab :: CodL.tab :: words, w.before a s = true := fun w hw => (List.mem_cons.mp hw).elim (fun e => e ▸ h3) fun hw => (List.mem_cons.mp hw).elim (fun e => e ▸ hc) (h w)
  have h4 : New4.tab.before a s = true := unparts (wk q3 (.code New4.yN New4.yB 6 none)) (wks q3 (.initialized New4.yN.cls :: New4.site))
  have q4 : ∀ w ∈ New4.tab :: words, w.before a s = true := fun w hw => (List.mem_cons.mp hw).elim (fun e => e ▸ h4) (h w)
  exact unparts (wk q4 (.code New1.yN New1.yB 2 none)) (wks q4 (.initialized New1.yN.cls :: New1.site))
/-- the words ride from the start Z to the walk's own state -/
theorem moved {Z s : State} {a0 args : Array Value} (hZ : Z.Warmed39 s.vm) (hw : ∀ d ∈ words, d.before a0 Z = true) : ∀ d ∈ words, d.before args s = true := fun d hd => by
  have q := hw d hd
  have t : ∀ d ∈ words, d = .arrayClass .byte ∨ (d.onTables && d.keepsFace) = true := by decide +kernel
  rcases t d hd with rfl | t
  · exact RoadKit.mvA hZ q
  · exact RoadKit.mv hZ q t
/-- WHAT COMES BACK, over the tables of the start Z: h the heap at the call, h' behind it -/
def Q (Z : State) (x : Addr) (A : Cell) (h : Heap) (v : Option Value) (h' : Heap) (L : List Loc) : Prop := v = none ∧ (∀ y ∈ L, y.base = x) ∧ RoadKit.Keep h h' [x] ∧ h'.size = h.size + 1 ∧ RoadKit.Exa Z h' x ST ∧ RoadKit.Fld Z h' x ST "value" "[B" (.ref h.size) ∧ RoadKit.Fld Z h' x ST "coder" "B" (.int 0) ∧
  (∃ V : Cell, RoadKit.Arr Z h' h.size V .byte ∧ V.vm = .none ∧ Z.vm.findClass "[B" = some V.cls ∧ V.slots.size = A.slots.size ∧ ∀ j, j < A.slots.size → V.slots[j]? = some (.int (lo8 (cv A j)))) ∧
  ∀ (O n d : String) (w : Value), RoadKit.Fld Z h x O n d w → RoadKit.slotOf Z O n d ≠ RoadKit.slotOf Z ST "value" "[B" → RoadKit.slotOf Z O n d ≠ RoadKit.slotOf Z ST "coder" "B" → RoadKit.Fld Z h' x O n d w
/-- **new String(chars) AT A CALL, IN THE ROAD'S FORM**: for specialBack behind newO: x the fresh String, b the char[] with the cell A -/
theorem back {p : Program} {l : Launch} {e : Env} {R : Room} {s : State} {args : Array Value} {below : List Frame} {len W : Nat} {Z : State} {a0 : Array Value} {h : Heap} (hZ : Z.Warmed39 s.vm) (hw : ∀ d ∈ words, d.before a0 Z = true) {kI : Nat} (wi : (Jvm.Cond.instantiable ST kI).before a0 Z = true)
    {x b : Addr} {A : Cell} {z : Int32} {v0 c0 : Value} (E : RoadKit.Exa Z h x ST) (V : RoadKit.Fld Z h x ST "value" "[B" v0) (C : RoadKit.Fld Z h x ST "coder" "B" c0) (K : RoadKit.Arr Z h b A .char) (hty : Typed .char A) (S : RoadKit.Sta Z h ST "COMPACT_STRINGS" "Z" (.int z)) (hz : ¬ z = 0)
    (l0 : 0 < A.slots.size) (l2 : A.slots.size ≤ 536870912) (hp : ∀ i, i < A.slots.size → ¬ 255 < cv A i) (hfr : 4 ≤ R.frames) (hlo : W + 65 ≤ R.locals) :
    Back l R p e below s args New1.yN len W (fun P a => a = #[.ref x, .ref b] ∧ P.U.heap = h ∧ P.cells + 1 ≤ R.cells ∧ P.slots + A.slots.size ≤ R.slots)
      (fun P _ v B => ∃ L, Q Z x A h v B.U.heap L ∧ B.locs = P.locs ++ L ∧ B.cells = P.cells + 1 ∧ B.slots = P.slots + A.slots.size) := by
  intro m meth c P g ig mk a X hg hsize hdg hW hn hp'
  obtain ⟨rfl, rfl, r1, r2⟩ := hp'
  have al : Z.vm.Alike P.U.vm := hZ.alike.trans X.warmed.alike
  obtain ⟨D, cfV, kV, iV, fV, hD, gV, stV, knV, obV, asV, slV⟩ := id V
  obtain ⟨D', cfC, kC, iC, fC, hD', gC, stC, -, -, asC, slC⟩ := id C
  cases hD.symm.trans hD'
  obtain ⟨D2, kD, e1, e2, e3, e4, e5⟩ := id E
  cases hD.symm.trans e1
  obtain ⟨c2, k2, i1, i2, i3, -⟩ := Cond.instantiable_spec wi
  cases e2.symm.trans i1
  cases e3.symm.trans i2
  obtain ⟨kU, u1, u2⟩ := al.2.2 _ _ e3
  have hB : Blank ST x D P.U := ⟨hD, ⟨knV, fun q hq => by rw [hq] at obV; cases obV⟩, by rw [al.findClass]; exact e2, kU, u1, by rw [u2]; exact i3, by rw [u2]; exact e5 i3⟩
  have F1 : Found ST "value" "[B" fV P.U := ⟨SBG.found_only al ⟨cfV, kV, iV, gV⟩, stV⟩
  have F2 : Found ST "coder" "B" fC P.U := ⟨SBG.found_only al ⟨cfC, kC, iC, gC⟩, stC⟩
  have hA : Ch b A P.U := ⟨⟨K.1, State.isArrayOf_alike al K.2.1, K.2.2, by omega⟩, hty⟩
  have hS : StaticIs P.U ST "COMPACT_STRINGS" "Z" (.int z) := by
    obtain ⟨cfS, iS, kS, fS, st, cS, t1, t2, t3, t4, t5, t6, t7⟩ := S
    exact StaticIs.there (s := { Z with heap := P.U.heap }) ⟨cfS, iS, kS, fS, st, cS, t1, t2, t3, t4, t5, (fun q => by rw [q] at t6; cases t6), t7⟩ al rfl
  obtain ⟨v, B, X', ⟨⟨hv, E', V', q1, q2, q3, q4, q5, q6, q7, q8, q9, q10, q11⟩, hl, hc, hs⟩, st⟩ := New1.pays x D fV fC b A z (tab_of (moved hZ hw)) hfr hlo m meth c P g ig mk _ X hg hsize hdg hW hn ⟨r1, r2, rfl, hB, F1, F2, hA, hS, hz, l0, l2, hp⟩
  have al' : Z.vm.Alike B.U.vm := hZ.alike.trans X'.warmed.alike
  have hsz : E'.slots.size = D.slots.size := by
    obtain ⟨-, -, -, kB, w1, w2, w3⟩ := q1
    obtain ⟨kB', y1, y2⟩ := al'.2.2 _ _ e3
    rw [q2.2.1] at w1
    cases w1.symm.trans y1
    rw [w3, e5 i3, y2]
  refine ⟨v, B, X', ⟨_, ⟨hv, ?_, ⟨by omega, fun y cy hy hn' => q10 y cy (by simpa using hn') hy, fun y cy hy => ?_⟩, q11, ⟨E', _, q1.1, by rw [q2.2.1]; exact e2, by rw [q2.2.1]; exact e3, by rw [q2.1]; exact obV, fun _ => by rw [hsz]; exact e5 i3⟩,
    ⟨E', cfV, kV, iV, fV, q1.1, gV, stV, by rw [q2.1]; exact knV, by rw [q2.1]; exact obV, by rw [q2.2.1]; exact asV, q3⟩, ⟨E', cfC, kC, iC, fC, q1.1, gC, stC, by rw [q2.1]; exact knV, by rw [q2.1]; exact obV, by rw [q2.2.1]; exact asC, q4⟩,
    ⟨V', ⟨q5.1, State.isArrayOf_alike al'.symm q5.2.1, q5.2.2.1⟩, q6, by rw [← al'.findClass]; exact q7, q8, fun j hj => by have := q9 j hj; rwa [Nat.zero_add] at this⟩, fun O n d w F n1 n2 => ?_⟩, hl, hc, hs⟩, st⟩
  · intro y hy
    simp only [List.mem_cons, List.not_mem_nil, or_false] at hy
    rcases hy with rfl | rfl <;> rfl
  · by_cases q : y = x
    · subst q
      cases hD.symm.trans hy
      exact ⟨E', q1.1, q2.2.1, q2.1, hsz⟩
    · exact ⟨cy, q10 y cy q hy, rfl, rfl, rfl⟩
  · obtain ⟨D3, cf, k, i, f, g1, g2, g3, g4, g5, g6, g7⟩ := F
    cases hD.symm.trans g1
    simp only [RoadKit.slotOf, g2, gV, gC, Option.map_some, Option.getD_some] at n1 n2
    exact ⟨E', cf, k, i, f, q1.1, g2, g3, by rw [q2.1]; exact g4, by rw [q2.1]; exact g5, by rw [q2.2.1]; exact g6, by rw [q2.2.2 f.slot (by simp [n1, n2])]; exact g7⟩
end StrChars.Road
namespace StrChars.Road
open Jvm Sem ClassFile Op Lib Jvm.Stand Jvm.Free Jvm.Free.XT
/-- WHAT COMES BACK, the byte[] as a list of values -/
def QA (Z : State) (x : Addr) (zn : Int32) (cs : List Int32) (h : Heap) (v : Option Value) (h' : Heap) (L : List Loc) : Prop := v = none ∧ (∀ y ∈ L, y.base = x) ∧ RoadKit.Keep h h' [x] ∧ h'.size = h.size + 1 ∧ RoadKit.Exa Z h' x ST ∧ RoadKit.Fld Z h' x ST "value" "[B" (.ref h.size) ∧ RoadKit.Fld Z h' x ST "coder" "B" (.int 0) ∧
  (∃ kb, Z.vm.findClass "[B" = some kb ∧ RoadKit.Arv Z h' h.size kb .byte zn (cs.map fun c => .int (lo8 c)) (.int 0)) ∧
  ∀ (O n d : String) (w : Value), RoadKit.Fld Z h x O n d w → RoadKit.slotOf Z O n d ≠ RoadKit.slotOf Z ST "value" "[B" → RoadKit.slotOf Z O n d ≠ RoadKit.slotOf Z ST "coder" "B" → RoadKit.Fld Z h' x O n d w
/-- **new String(chars) AT A CALL, THE ARRAYS AS LISTS**: the char[] at b holds cs, not empty, no char above 255 -/
theorem backArv {p : Program} {l : Launch} {e : Env} {R : Room} {s : State} {args : Array Value} {below : List Frame} {len W : Nat} {Z : State} {a0 : Array Value} {h : Heap} (hZ : Z.Warmed39 s.vm) (hw : ∀ d ∈ words, d.before a0 Z = true) {kI : Nat} (wi : (Jvm.Cond.instantiable ST kI).before a0 Z = true)
    {x b : Addr} {k : ClassId} {zn z : Int32} {cs : List Int32} {dv v0 c0 : Value} (E : RoadKit.Exa Z h x ST) (V : RoadKit.Fld Z h x ST "value" "[B" v0) (C : RoadKit.Fld Z h x ST "coder" "B" c0) (K : RoadKit.Arv Z h b k .char zn (cs.map Value.int) dv) (S : RoadKit.Sta Z h ST "COMPACT_STRINGS" "Z" (.int z)) (hz : ¬ z = 0)
    (hlen : zn.toNatClampNeg = cs.length) (h0 : 0 < cs.length) (hbig : cs.length ≤ 536870912) (hall : ∀ c ∈ cs, ¬ 255 < c) (hfr : 4 ≤ R.frames) (hlo : W + 65 ≤ R.locals) :
    Back l R p e below s args New1.yN len W (fun P a => a = #[.ref x, .ref b] ∧ P.U.heap = h ∧ P.cells + 1 ≤ R.cells ∧ P.slots + cs.length ≤ R.slots)
      (fun P _ v B => ∃ L, QA Z x zn cs h v B.U.heap L ∧ B.locs = P.locs ++ L ∧ B.cells = P.cells + 1 ∧ B.slots = P.slots + cs.length) := by
  obtain ⟨A, K1, K2, K3, K4, K5, K6⟩ := K
  have e : A.slots.size = cs.length := K3.trans hlen
  have hat : ∀ (i : Nat) (hi : i < cs.length), A.slots[i]? = some (.int cs[i]) := fun i hi => by rw [K5 i (by omega)]; simp [List.getD_eq_getElem?_getD, hi]
  have hcv : ∀ (i : Nat) (hi : i < cs.length), cv A i = cs[i] := fun i hi => by unfold cv; rw [hat i hi]
  have hty : Typed .char A := fun i v hv => by
    have hi : i < A.slots.size := (Array.getElem?_eq_some_iff.mp hv).1
    have q := K5 i hi
    rw [hv] at q
    rw [Option.some.inj q]
    exact K6 i hi
  refine Back.mono (back hZ hw wi E V C K1 hty S hz (by omega) (by omega) (fun i hi => by rw [hcv i (by omega)]; exact hall _ (List.getElem_mem _)) hfr hlo) (fun P a hp => ⟨hp.1, hp.2.1, hp.2.2.1, by rw [e]; exact hp.2.2.2⟩) (fun P a v B hp hq => ?_)
  obtain ⟨L, ⟨q1, q2, q3, q4, q5, q6, q7, ⟨V', v1, v2, v3, v4, v5⟩, q9⟩, hl, hc, hs⟩ := hq
  refine ⟨L, ⟨q1, q2, q3, q4, q5, q6, q7, ⟨V'.cls, v3, V', v1, rfl, by rw [v4, e, hlen], K4, fun i hi => ?_, fun i hi => ?_⟩, q9⟩, hl, hc, by rw [hs, e]⟩
  · have hi' : i < cs.length := by omega
    rw [v5 i (by omega), hcv i hi']; simp [List.getD_eq_getElem?_getD, hi']
  · have hi' : i < cs.length := by omega
    simp only [List.getD_eq_getElem?_getD, List.getElem?_map, List.getElem?_eq_getElem hi', Option.map_some, Option.getD_some]
    exact fits_lo8 _
end StrChars.Road
namespace StrChars.Road
open Jvm Sem ClassFile Op Lib Jvm.Stand Jvm.Free Jvm.Free.XT
/-- WHAT COMES BACK, in the writer's own shape -/
def QV (Z : State) (x : Addr) (N : Int32) (bs : List Int32) (h : Heap) (n0 : Nat) (v : Option Value) (h' : Heap) (L : List Loc) : Prop := v = none ∧ RoadKit.Fr n0 L ∧ RoadKit.Keep h h' [x] ∧ RoadKit.Exa Z h' x ST ∧ RoadKit.Fld Z h' x ST "coder" "B" (.int 0) ∧
  ∃ (t : Addr) (kb : ClassId), n0 ≤ t ∧ h.size ≤ t ∧ ¬ t = x ∧ RoadKit.Fld Z h' x ST "value" "[B" (.ref t) ∧ RoadKit.Arv Z h' t kb .byte N (bs.map Value.int) (.int 0)
/-- **new String(chars) AT A CALL, FOR THE WRITER**: a char[] of n known ints, each 0 to 255 -/
theorem backV {p : Program} {l : Launch} {e : Env} {R : Room} {s : State} {args : Array Value} {below : List Frame} {len W : Nat} {Z : State} {a0 : Array Value} {h : Heap} (hZ : Z.Warmed39 s.vm) (hw : ∀ d ∈ words, d.before a0 Z = true) {kI : Nat} (wi : (Jvm.Cond.instantiable ST kI).before a0 Z = true)
    {x b : Addr} {kC : ClassId} {cs bs : List Int32} {d v0 c0 : Value} {z N : Int32} {n n0 : Nat} (hx0 : n0 ≤ x) (hh0 : n0 ≤ h.size) (E : RoadKit.Exa Z h x ST) (V : RoadKit.Fld Z h x ST "value" "[B" v0) (C : RoadKit.Fld Z h x ST "coder" "B" c0) (K : RoadKit.Arv Z h b kC .char N (cs.map Value.int) d) (S : RoadKit.Sta Z h ST "COMPACT_STRINGS" "Z" (.int z)) (hz : ¬ z = 0)
    (hn : cs.length = n) (hN : N = Int32.ofNat n) (l0 : 0 < n) (l2 : n ≤ 4000) (hp : ∀ c ∈ cs, ¬ c < 0 ∧ ¬ (255 : Int32) < c) (hb : bs = cs.map (fun c => c.toInt8.toInt32)) (hfr : 4 ≤ R.frames) (hlo : W + 65 ≤ R.locals) :
    Back l R p e below s args (⟨"java/lang/String", "<init>", "([C)V"⟩ : MethodName) len W (fun P a => a = #[.ref x, .ref b] ∧ P.U.heap = h ∧ P.cells + 1 ≤ R.cells ∧ P.slots + n ≤ R.slots)
      (fun P _ v B => ∃ L, QV Z x N bs h n0 v B.U.heap L ∧ B.locs = P.locs ++ L ∧ B.cells = P.cells + 1 ∧ B.slots = P.slots + n) := by
  subst hn hN hb
  refine Back.mono (backArv hZ hw wi E V C K S hz (n32 (by omega)) l0 (by omega) (fun c hc => (hp c hc).2) hfr hlo) (fun P a hp => hp) (fun P a v B hp hq => ?_)
  obtain ⟨L, ⟨q1, q2, q3, q4, q5, q6, q7, ⟨kb, v1, v2⟩, q9⟩, hl, hc, hs⟩ := hq
  exact ⟨L, ⟨q1, fun y hy => by rw [q2 y hy]; exact hx0, q3, q5, q7, h.size, kb, hh0, Nat.le_refl _, Nat.ne_of_gt E.lt, q6, by rw [List.map_map]; exact v2⟩, hl, hc, hs⟩
end StrChars.Road
namespace StrChars
open Jvm Sem ClassFile Op Lib Jvm.Stand Jvm.Free.XT Jvm.Free.ALB Jvm.Free.JM Jvm.Free
open Jvm.Lib.Cold (StaticIs)
def hi8 (x : Int32) : Int32 := lo8 (x >>> ((8 : Int32) &&& 31))
/-- what StringUTF16.getChar makes of two bytes -/
def pairCh (u v : Int32) : Int32 := (((u &&& 255) <<< ((0 : Int32) &&& 31)) ||| ((v &&& 255) <<< ((8 : Int32) &&& 31))).toUInt32.toUInt16.toUInt32.toInt32
theorem shr0 (c : Int32) : c >>> ((0 : Int32) &&& 31) = c := by
  have e : ((0 : Int32) &&& 31) = 0 := by decide
  rw [e]
  apply Int32.toBitVec_inj.mp
  rw [Int32.toBitVec_shiftRight]
  have e1 : ((0 : Int32).toBitVec.smod 32) = 0#32 := by decide
  rw [e1, BitVec.sshiftRight_eq']
  exact BitVec.sshiftRight_zero
theorem lo8_and (x : Int32) : (lo8 x &&& 255).toBitVec.toNat = x.toBitVec.toNat % 256 := by
  have h : (lo8 x).toBitVec = (x.toBitVec.signExtend 8).signExtend 32 := by rw [lo8, Int8.toBitVec_toInt32, Int32.toBitVec_toInt8]
  rw [Int32.toBitVec_and, BitVec.toNat_and, h]
  have e : ((x.toBitVec.signExtend 8).signExtend 32).toNat % 256 = x.toBitVec.toNat % 256 := by
    rw [BitVec.toNat_signExtend]
    have hlt := x.toBitVec.isLt
    simp only [BitVec.toNat_setWidth, BitVec.toNat_signExtend]
    split <;> split <;> omega
  rw [← e]
  exact Nat.and_two_pow_sub_one_eq_mod _ 8
theorem pair_says {c : Int32} (h0 : ¬ c < 0) (h1 : ¬ 65535 < c) : pairCh (lo8 c) (hi8 c) = c := by
  rw [Int32.lt_iff_toInt_lt] at h0 h1
  have e0 : (0 : Int32).toInt = 0 := rfl
  have e1 : (65535 : Int32).toInt = 65535 := rfl
  have hc : c.toInt = c.toBitVec.toNat := by
    have := c.toBitVec.isLt
    have e : c.toInt = c.toBitVec.toInt := rfl
    rw [e] at h0 h1
    rw [e]
    rw [BitVec.toInt_eq_toNat_cond] at h0 h1 ⊢
    split at h0 <;> split <;> omega
  have hn : c.toBitVec.toNat < 65536 := by omega
  have a1 := lo8_and c
  have a2 : (hi8 c &&& 255).toBitVec.toNat = c.toBitVec.toNat / 256 := by
    rw [hi8, lo8_and]
    have e : ((8 : Int32) &&& 31) = 8 := by decide
    rw [e, Int32.toBitVec_shiftRight]
    have e2 : ((8 : Int32).toBitVec.smod 32) = 8#32 := by decide
    rw [e2, BitVec.sshiftRight_eq', BitVec.toNat_sshiftRight_of_msb_false (by rw [BitVec.msb_eq_false_iff_two_mul_lt]; omega)]
    show c.toBitVec.toNat >>> 8 % 256 = _
    rw [Nat.shiftRight_eq_div_pow]
    omega
  unfold pairCh
  apply Int32.toBitVec_inj.mp
  apply BitVec.eq_of_toNat_eq
  have f0 : ((0 : Int32) &&& 31) = 0 := by decide
  have f8 : ((8 : Int32) &&& 31) = 8 := by decide
  rw [f0, f8]
  have g : (((lo8 c &&& 255) <<< (0 : Int32)) ||| ((hi8 c &&& 255) <<< (8 : Int32))).toBitVec.toNat = c.toBitVec.toNat := by
    rw [Int32.toBitVec_or, Int32.toBitVec_shiftLeft, Int32.toBitVec_shiftLeft]
    have s0 : ((0 : Int32).toBitVec.smod 32) = 0#32 := by decide
    have s8 : ((8 : Int32).toBitVec.smod 32) = 8#32 := by decide
    rw [s0, s8, BitVec.toNat_or]
    simp only [BitVec.shiftLeft_eq', BitVec.toNat_shiftLeft, a1, a2]
    show (c.toBitVec.toNat % 256) <<< 0 % 2 ^ 32 ||| (c.toBitVec.toNat / 256) <<< 8 % 2 ^ 32 = _
    rw [Nat.shiftLeft_zero, Nat.mod_eq_of_lt (show c.toBitVec.toNat % 256 < 2 ^ 32 by omega), Nat.mod_eq_of_lt (show (c.toBitVec.toNat / 256) <<< 8 < 2 ^ 32 by rw [Nat.shiftLeft_eq]; omega), Nat.or_comm, ← Nat.shiftLeft_add_eq_or_of_lt (by omega), Nat.shiftLeft_eq]
    omega
  show BitVec.toNat (((((lo8 c &&& 255) <<< (0 : Int32)) ||| ((hi8 c &&& 255) <<< (8 : Int32))).toBitVec.setWidth 16).setWidth 32) = _
  rw [BitVec.toNat_setWidth, BitVec.toNat_setWidth, g]
  omega
end StrChars
namespace StrChars
open Jvm Sem ClassFile Op Lib Jvm.Stand Jvm.Free.XT Jvm.Free.ALB Jvm.Free.JM Jvm.Free
open Jvm.Lib.Cold (StaticIs)
theorem shr1 {n : Nat} (h : 2 * n < 2 ^ 31) : Int32.ofNat (2 * n) >>> ((1 : Int32) &&& 31) = Int32.ofNat n := by
  have e : ((1 : Int32) &&& 31) = 1 := by decide
  rw [e]
  apply Int32.toBitVec_inj.mp
  rw [Int32.toBitVec_shiftRight]
  have e1 : ((1 : Int32).toBitVec.smod 32) = 1#32 := by decide
  have hm : (BitVec.ofNat 32 (2 * n)).toNat = 2 * n := by rw [BitVec.toNat_ofNat, Nat.mod_eq_of_lt (by omega)]
  rw [e1, BitVec.sshiftRight_eq']
  apply BitVec.eq_of_toNat_eq
  show ((BitVec.ofNat 32 (2 * n)).sshiftRight 1).toNat = (BitVec.ofNat 32 n).toNat
  rw [BitVec.toNat_sshiftRight_of_msb_false (by rw [BitVec.msb_eq_false_iff_two_mul_lt, hm]; omega), hm, BitVec.toNat_ofNat, Nat.shiftRight_eq_div_pow]
  omega
/-- charAt's cast of a byte read back -/
def chr8 (u : Int32) : Int32 := (u &&& 255).toUInt32.toUInt16.toUInt32.toInt32
theorem chr8_lo8 {c : Int32} (h0 : ¬ c < 0) (h1 : ¬ 255 < c) : chr8 (lo8 c) = c := by
  have t : ∀ k : Fin 256, (Int32.ofNat k.val).toUInt32.toUInt16.toUInt32.toInt32 = Int32.ofNat k.val := by decide +kernel
  unfold chr8
  rw [lo8_mask h0 h1]
  rw [Int32.lt_iff_toInt_lt] at h0 h1
  have e0 : (0 : Int32).toInt = 0 := rfl
  have e1 : (255 : Int32).toInt = 255 := rfl
  obtain ⟨k, hk⟩ : ∃ k : Nat, c.toInt = k := ⟨c.toInt.toNat, by omega⟩
  have hx : c = Int32.ofNat k := Int32.toInt_inj.mp (by rw [hk, Int32.toInt_ofNat_small (by omega)])
  rw [hx]
  exact t ⟨k, by omega⟩
theorem narrow_ch {c : Int32} (h0 : ¬ c < 0) (h1 : ¬ 65535 < c) : narrow .char (.int c) = .int c := by
  have q : narrow .char (.int (pairCh (lo8 c) (hi8 c))) = .int (pairCh (lo8 c) (hi8 c)) := narrow_c _
  rwa [pair_says h0 h1] at q
/-- the array's cell V codes the n chars f 0 .. f (n - 1) by the coder cd, as the JDK does: coder 1 just where some char is above 255 -/
def Cod (cd : Int32) (n : Nat) (f : Nat → Int32) (V : Cell) : Prop := (cd = 0 ∧ V.slots.size = n ∧ ∀ j, j < n → V.slots[j]? = some (.int (lo8 (f j))) ∧ ¬ 255 < f j) ∨ (cd = 1 ∧ V.slots.size = 2 * n ∧ (∀ j, j < n → V.slots[2 * j]? = some (.int (lo8 (f j))) ∧ V.slots[2 * j + 1]? = some (.int (hi8 (f j)))) ∧ ∃ j, j < n ∧ 255 < f j)
theorem Cod.cd {cd : Int32} {n : Nat} {f : Nat → Int32} {V : Cell} (h : Cod cd n f V) : cd = 0 ∨ cd = 1 := h.imp (fun q => q.1) fun q => q.1
theorem Cod.len {cd : Int32} {n : Nat} {f : Nat → Int32} {V : Cell} (h : Cod cd n f V) (hs : V.slots.size < 2 ^ 31) : Int32.ofNat V.slots.size >>> (cd &&& 31) = Int32.ofNat n := by
  rcases h with ⟨rfl, h, -⟩ | ⟨rfl, h, -⟩
  · rw [shr0, h]
  · rw [h, shr1 (by omega)]
/-- **x is a String of the n chars f 0 .. f (n - 1)**, Latin-1 or UTF-16; its array at t has the cell V -/
def Txt (x t : Addr) (V : Cell) (cd : Int32) (n : Nat) (f : Nat → Int32) (U : State) : Prop := Exact "java/lang/String" x U ∧ Has x "java/lang/String" "value" "[B" (.ref t) U ∧ Has x "java/lang/String" "coder" "B" (.int cd) U ∧ XT.Arr .byte t V U ∧ Cod cd n f V ∧ ∀ j, j < n → ¬ f j < 0 ∧ ¬ 65535 < f j
theorem Txt.mv {x t : Addr} {V : Cell} {cd : Int32} {n : Nat} {f : Nat → Int32} {U U' : State} (h : Txt x t V cd n f U) (hal : U.vm.Alike U'.vm) (hh : U'.heap = U.heap) : Txt x t V cd n f U' := ⟨h.1.mv hal hh, h.2.1.mv hal hh, h.2.2.1.mv hal hh, h.2.2.2.1.mv hal hh, h.2.2.2.2⟩
namespace Cdr
def yN : MethodName := ⟨"java/lang/String", "coder", "()B"⟩
abbrev yB : ByteArray := jdk_42_method_152_code
theorem d0 : decode yB 0 = .ok (.getstatic 38, 3) := by decide +kernel
theorem d3 : decode yB 3 = .ok (.ifCond (.eq) 10, 3) := by decide +kernel
theorem d6 : decode yB 6 = .ok (.aload_n 0, 1) := by decide +kernel
theorem d7 : decode yB 7 = .ok (.getfield 15, 3) := by decide +kernel
theorem d10 : decode yB 10 = .ok (.goto 4, 3) := by decide +kernel
theorem d14 : decode yB 14 = .ok (.ireturn, 1) := by decide +kernel
def site : List Cond := [.fieldLink "java/lang/String" 38 "java/lang/String" "COMPACT_STRINGS" "Z", .fieldLink "java/lang/String" 15 "java/lang/String" "coder" "B"]
def tab : Cond := tabOf yN yB 1 (some .byte) site
def P (x : Addr) (cd z : Int32) (args : Array Value) (s : State) : Prop := args = #[.ref x] ∧ Has x "java/lang/String" "coder" "B" (.int cd) s ∧ (cd = 0 ∨ cd = 1) ∧ StaticIs s "java/lang/String" "COMPACT_STRINGS" "Z" (.int z) ∧ ¬ z = 0
def E (cd : Int32) (r : Option Value) (s u : State) : Prop := XT.PureE (some (.int cd)) r s u
theorem law (l : Launch) (x : Addr) (cd z : Int32) : Law l yN 1 0 0 0 yB 1 (some .byte) site (P x cd z) (E cd) [] 0 0 := by
  refine Law.of_walk (plainFor_of_name (by decide +kernel)) (by decide +kernel) (by decide +kernel) (by decide) (fun _ _ h => by rw [h.1]; rfl) (fun _ U U' hal hh h => ⟨h.1, h.2.1.mv hal hh, h.2.2.1, h.2.2.2.1.there hal hh, h.2.2.2.2⟩) (fun r U U' V V' h1 hal h2 h => XT.PureE.mv r U U' V V' h1 hal h2 h) ?_
  intro p e s m args below meth c s₁ X0 hexec hbytes hml hret hlk hnm hown hh0 W hP
  obtain ⟨rfl, hx, hc, s1, hz⟩ := hP
  have c1 : Steps p.tables e below (s₁.setTop (entryFrame m #[.ref x] 1)) (s₁.setTop (mkF m 0 #[.val (.ref x)] [])) := entry rfl
  obtain ⟨T2, X2, q2, st2⟩ := X0.sget hexec hown (wk W (.fieldLink "java/lang/String" 38 "java/lang/String" "COMPACT_STRINGS" "Z")) s1 (fun _ _ h => by rw [hh0]; exact h) (g := (mkF m 0 #[.val (.ref x)] [])) rfl (hb hbytes d0)
  have hh2 := q2.trans hh0
  have c3 : Steps p.tables e below (s₁.setTop (entryFrame m #[.ref x] 1)) (T2.setTop (mkF m 7 #[.val (.ref x)] [.ref x])) := (c1.trans (st2 _ (Steps.refl _))).trans (by
    refine XS.ifNo X2.here hexec rfl (hb hbytes d3) rfl (i0_eq_f hz) ?_
    refine XS.aloadN X2.here hexec rfl (hb hbytes d6) rfl rfl ?_
    exact Steps.refl _)
  obtain ⟨T4, X4, q4, st4⟩ := X2.hget hexec hown (wk W (.fieldLink "java/lang/String" 15 "java/lang/String" "coder" "B")) (hx.mv X2.warmed.alike hh2) (g := (mkF m 7 #[.val (.ref x)] [.ref x])) rfl (rest := []) rfl (hb hbytes d7)
  have c5 : Steps p.tables e below (s₁.setTop (entryFrame m #[.ref x] 1)) (T4.setTop (mkF m 14 #[.val (.ref x)] [.int cd])) := (c3.trans (st4 _ (Steps.refl _))).trans (by
    refine XS.goto X4.here hexec rfl (pc0 := 10) rfl (hb hbytes d10) (by decide) rfl ?_
    exact Steps.refl _)
  exact ⟨T4, some (.int cd), _, _, _, X4, rfl, rfl, rfl, (fun h => by cases h), ⟨rfl, q4.trans hh2⟩, fun fs hl => c5.trans (X4.ireturnOut hexec hret (by rcases hc with rfl | rfl <;> rfl) (Or.inr (Or.inr (Or.inl rfl))) (hb hbytes d14) hl)⟩
end Cdr
namespace Len
def yN : MethodName := ⟨"java/lang/String", "length", "()I"⟩
abbrev yB : ByteArray := jdk_42_method_54_code
theorem d0 : decode yB 0 = .ok (.aload_n 0, 1) := by decide +kernel
theorem d1 : decode yB 1 = .ok (.getfield 9, 3) := by decide +kernel
theorem d4 : decode yB 4 = .ok (.arraylength, 1) := by decide +kernel
theorem d5 : decode yB 5 = .ok (.aload_n 0, 1) := by decide +kernel
theorem d6 : decode yB 6 = .ok (.invokevirtual 335, 3) := by decide +kernel
theorem d9 : decode yB 9 = .ok (.ishr, 1) := by decide +kernel
theorem d10 : decode yB 10 = .ok (.ireturn, 1) := by decide +kernel
def site : List Cond := [.fieldLink "java/lang/String" 9 "java/lang/String" "value" "[B", Cdr.tab] ++ virtW "java/lang/String" 335 "java/lang/String" Cdr.yN Cdr.yN
def tab : Cond := tabOf yN yB 1 (some .int) site
def P (x t : Addr) (V : Cell) (cd : Int32) (n : Nat) (f : Nat → Int32) (z : Int32) (args : Array Value) (s : State) : Prop := args = #[.ref x] ∧ Txt x t V cd n f s ∧ StaticIs s "java/lang/String" "COMPACT_STRINGS" "Z" (.int z) ∧ ¬ z = 0
def E (n : Nat) (r : Option Value) (s u : State) : Prop := XT.PureE (some (.int (Int32.ofNat n))) r s u
/-- length() of a String of n chars, in either coding -/
theorem law (l : Launch) (x t : Addr) (V : Cell) (cd : Int32) (n : Nat) (f : Nat → Int32) (z : Int32) : Law l yN 1 0 1 13 yB 1 (some .int) site (P x t V cd n f z) (E n) [] 0 0 := by
  refine Law.of_walk (plainFor_of_name (by decide +kernel)) (by decide +kernel) (by decide +kernel) (by decide) (fun _ _ h => by rw [h.1]; rfl) (fun _ U U' hal hh h => ⟨h.1, h.2.1.mv hal hh, h.2.2.1.there hal hh, h.2.2.2⟩) (fun r U U' V V' h1 hal h2 h => XT.PureE.mv r U U' V V' h1 hal h2 h) ?_
  intro p e s m args below meth c s₁ X0 hexec hbytes hml hret hlk hnm hown hh0 W hP
  obtain ⟨rfl, hx, s1, hz⟩ := hP
  have v31 := hx.2.2.2.1.2.2.2
  have c1 : Steps p.tables e below (s₁.setTop (entryFrame m #[.ref x] 1)) (s₁.setTop (mkF m 1 #[.val (.ref x)] [.ref x])) := Steps.trans (entry rfl) (by
    show Steps p.tables e below (s₁.setTop (mkF m 0 #[.val (.ref x)] [])) _
    refine XS.aloadN X0.here hexec rfl (hb hbytes d0) rfl rfl ?_
    exact Steps.refl _)
  obtain ⟨T2, X2, q2, st2⟩ := X0.hget hexec hown (wk W (.fieldLink "java/lang/String" 9 "java/lang/String" "value" "[B")) (hx.mv X0.warmed.alike hh0).2.1 (g := (mkF m 1 #[.val (.ref x)] [.ref x])) rfl (rest := []) rfl (hb hbytes d1)
  have hh2 := q2.trans hh0
  have hx2 := hx.mv X2.warmed.alike hh2
  have c3 : Steps p.tables e below (s₁.setTop (entryFrame m #[.ref x] 1)) (T2.setTop (mkF m 6 #[.val (.ref x)] [.ref x, .int (Int32.ofNat V.slots.size)])) := (c1.trans (st2 _ (Steps.refl _))).trans (by
    refine X2.alen hexec hx2.2.2.2.1 rfl rfl (hb hbytes d4) ?_
    refine XS.aloadN X2.here hexec rfl (hb hbytes d5) rfl rfl ?_
    exact Steps.refl _)
  obtain ⟨v4, T4, X4, E4, g4⟩ := X2.callV hexec (Cdr.law l x cd z) hown (wks W (virtW "java/lang/String" 335 "java/lang/String" Cdr.yN Cdr.yN)) rfl (by decide) (wk W Cdr.tab) (W := 1) (Nat.le_of_ble_eq_true rfl) (Nat.le_of_ble_eq_true rfl) (Nat.le_refl _) (Nat.le_refl _) (hx2.1.fc X2.warmed.alike) hx2.1.is (g := (mkF m 6 #[.val (.ref x)] [.ref x, .int (Int32.ofNat V.slots.size)])) rfl (by rw [hml]; rfl) c3 (argsL := []) (rest := [.int (Int32.ofNat V.slots.size)]) rfl rfl (by show 2 * 0 + (1 + 0) ≤ _; decide) (hb hbytes d6) (⟨rfl, hx2.2.2.1, hx.2.2.2.2.1.cd, s1.there X2.warmed.alike hh2, hz⟩)
  obtain ⟨rfl, q4⟩ := E4
  have c5 : Steps p.tables e below (s₁.setTop (entryFrame m #[.ref x] 1)) (T4.setTop (mkF m 10 #[.val (.ref x)] [.int (Int32.ofNat V.slots.size >>> (cd &&& 31))])) := Steps.trans g4 (by
    refine ishr X4.here hexec rfl (hb hbytes d9) rfl ?_
    exact Steps.refl _)
  rw [hx.2.2.2.2.1.len v31] at c5
  exact ⟨T4, some (.int (Int32.ofNat n)), _, _, _, X4, rfl, rfl, rfl, (fun h => by cases h), ⟨rfl, q4.trans hh2⟩, fun fs hl => c5.trans (X4.ireturnOut hexec hret rfl (Or.inl rfl) (hb hbytes d10) hl)⟩
theorem pays {l : Launch} {R : Room} {p : Program} {e : Env} {below : List Frame} {s : State} {sargs : Array Value} {len W : Nat} (x t : Addr) (V : Cell) (cd : Int32) (n : Nat) (f : Nat → Int32) (z : Int32) (htab : tab.before sargs s = true) (hfr : 2 ≤ R.frames) (hlo : W + 25 ≤ R.locals) :
    Back l R p e below s sargs yN len W (fun A₁ a₁ => A₁.cells + 0 ≤ R.cells ∧ A₁.slots + 0 ≤ R.slots ∧ P x t V cd n f z a₁ A₁.U) (fun A₁ _ v₁ B₁ => E n v₁ A₁.U B₁.U ∧ B₁.locs = A₁.locs ++ [] ∧ B₁.cells = A₁.cells + 0 ∧ B₁.slots = A₁.slots + 0) :=
  (law l x t V cd n f z).pays htab hfr (by omega)
end Len
namespace IsL
def yN : MethodName := ⟨"java/lang/String", "isLatin1", "()Z"⟩
abbrev yB : ByteArray := jdk_42_method_154_code
theorem d0 : decode yB 0 = .ok (.getstatic 38, 3) := by decide +kernel
theorem d3 : decode yB 3 = .ok (.ifCond (.eq) 14, 3) := by decide +kernel
theorem d6 : decode yB 6 = .ok (.aload_n 0, 1) := by decide +kernel
theorem d7 : decode yB 7 = .ok (.getfield 15, 3) := by decide +kernel
theorem d10 : decode yB 10 = .ok (.ifCond (.ne) 7, 3) := by decide +kernel
theorem d13 : decode yB 13 = .ok (.iconst 1, 1) := by decide +kernel
theorem d14 : decode yB 14 = .ok (.goto 4, 3) := by decide +kernel
theorem d17 : decode yB 17 = .ok (.iconst 0, 1) := by decide +kernel
theorem d18 : decode yB 18 = .ok (.ireturn, 1) := by decide +kernel
def site : List Cond := [.fieldLink "java/lang/String" 38 "java/lang/String" "COMPACT_STRINGS" "Z", .fieldLink "java/lang/String" 15 "java/lang/String" "coder" "B"]
def tab : Cond := tabOf yN yB 1 (some .boolean) site
def P (x : Addr) (cd z : Int32) (args : Array Value) (s : State) : Prop := args = #[.ref x] ∧ Has x "java/lang/String" "coder" "B" (.int cd) s ∧ (cd = 0 ∨ cd = 1) ∧ StaticIs s "java/lang/String" "COMPACT_STRINGS" "Z" (.int z) ∧ ¬ z = 0
def E (cd : Int32) (r : Option Value) (s u : State) : Prop := XT.PureE (some (.int (1 - cd))) r s u
theorem law (l : Launch) (x : Addr) (cd z : Int32) : Law l yN 1 0 0 0 yB 1 (some .boolean) site (P x cd z) (E cd) [] 0 0 := by
  refine Law.of_walk (plainFor_of_name (by decide +kernel)) (by decide +kernel) (by decide +kernel) (by decide) (fun _ _ h => by rw [h.1]; rfl) (fun _ U U' hal hh h => ⟨h.1, h.2.1.mv hal hh, h.2.2.1, h.2.2.2.1.there hal hh, h.2.2.2.2⟩) (fun r U U' V V' h1 hal h2 h => XT.PureE.mv r U U' V V' h1 hal h2 h) ?_
  intro p e s m args below meth c s₁ X0 hexec hbytes hml hret hlk hnm hown hh0 W hP
  obtain ⟨rfl, hx, hc, s1, hz⟩ := hP
  have c1 : Steps p.tables e below (s₁.setTop (entryFrame m #[.ref x] 1)) (s₁.setTop (mkF m 0 #[.val (.ref x)] [])) := entry rfl
  obtain ⟨T2, X2, q2, st2⟩ := X0.sget hexec hown (wk W (.fieldLink "java/lang/String" 38 "java/lang/String" "COMPACT_STRINGS" "Z")) s1 (fun _ _ h => by rw [hh0]; exact h) (g := (mkF m 0 #[.val (.ref x)] [])) rfl (hb hbytes d0)
  have hh2 := q2.trans hh0
  have c3 : Steps p.tables e below (s₁.setTop (entryFrame m #[.ref x] 1)) (T2.setTop (mkF m 7 #[.val (.ref x)] [.ref x])) := (c1.trans (st2 _ (Steps.refl _))).trans (by
    refine XS.ifNo X2.here hexec rfl (hb hbytes d3) rfl (i0_eq_f hz) ?_
    refine XS.aloadN X2.here hexec rfl (hb hbytes d6) rfl rfl ?_
    exact Steps.refl _)
  obtain ⟨T4, X4, q4, st4⟩ := X2.hget hexec hown (wk W (.fieldLink "java/lang/String" 15 "java/lang/String" "coder" "B")) (hx.mv X2.warmed.alike hh2) (g := (mkF m 7 #[.val (.ref x)] [.ref x])) rfl (rest := []) rfl (hb hbytes d7)
  have c5 : Steps p.tables e below (s₁.setTop (entryFrame m #[.ref x] 1)) (T4.setTop (mkF m 10 #[.val (.ref x)] [.int cd])) := c3.trans (st4 _ (Steps.refl _))
  have c6 : Steps p.tables e below (s₁.setTop (entryFrame m #[.ref x] 1)) (T4.setTop (mkF m 18 #[.val (.ref x)] [.int (1 - cd)])) := by
    rcases hc with rfl | rfl
    · exact c5.trans (by
        refine XS.ifNo X4.here hexec rfl (hb hbytes d10) rfl (i0_ne_f rfl) ?_
        refine iconstV X4.here hexec rfl 1 (hb hbytes d13) (by decide) ?_
        refine XS.goto X4.here hexec rfl (pc0 := 14) rfl (hb hbytes d14) (by decide) rfl ?_
        exact Steps.refl _)
    · exact c5.trans (by
        refine XS.ifYes X4.here hexec rfl (pc0 := 10) rfl (hb hbytes d10) rfl (i0_ne_t (by decide)) (by decide) rfl ?_
        refine iconstV X4.here hexec rfl 0 (hb hbytes d17) (by decide) ?_
        exact Steps.refl _)
  exact ⟨T4, some (.int (1 - cd)), _, _, _, X4, rfl, rfl, rfl, (fun h => by cases h), ⟨rfl, q4.trans hh2⟩, fun fs hl => c6.trans (X4.ireturnOut hexec hret (by rcases hc with rfl | rfl <;> rfl) (Or.inr (Or.inl rfl)) (hb hbytes d18) hl)⟩
end IsL
namespace LChA
def yN : MethodName := ⟨"java/lang/StringLatin1", "charAt", "([BI)C"⟩
abbrev yB : ByteArray := jdk_43_method_2_code
theorem d0 : decode yB 0 = .ok (.iload_n 1, 1) := by decide +kernel
theorem d1 : decode yB 1 = .ok (.aload_n 0, 1) := by decide +kernel
theorem d2 : decode yB 2 = .ok (.arraylength, 1) := by decide +kernel
theorem d3 : decode yB 3 = .ok (.invokestatic 9, 3) := by decide +kernel
theorem d6 : decode yB 6 = .ok (.aload_n 0, 1) := by decide +kernel
theorem d7 : decode yB 7 = .ok (.iload_n 1, 1) := by decide +kernel
theorem d8 : decode yB 8 = .ok (.baload, 1) := by decide +kernel
theorem d9 : decode yB 9 = .ok (.sipush 255, 3) := by decide +kernel
theorem d12 : decode yB 12 = .ok (.iand, 1) := by decide +kernel
theorem d13 : decode yB 13 = .ok (.i2c, 1) := by decide +kernel
theorem d14 : decode yB 14 = .ok (.ireturn, 1) := by decide +kernel
def site : List Cond := [JO.Str_checkIndex.tab] ++ staticW "java/lang/StringLatin1" 9 JO.Str_checkIndex.yN
def tab : Cond := tabOf yN yB 2 (some .char) site
def P (t : Addr) (V : Cell) (i : Nat) (u : Int32) (fm : Value) (args : Array Value) (s : State) : Prop := args = #[.ref t, .int (Int32.ofNat i)] ∧ XT.Arr .byte t V s ∧ V.slots[i]? = some (.int u) ∧ (StaticIs s "jdk/internal/util/Preconditions" "SIOOBE_FORMATTER" "Ljava/util/function/BiFunction;" fm ∧ fm.isRef = true)
def E (u : Int32) (r : Option Value) (s w : State) : Prop := XT.PureE (some (.int (chr8 u))) r s w
theorem law (l : Launch) (t : Addr) (V : Cell) (i : Nat) (u : Int32) (fm : Value) : Law l yN 2 2 2 27 yB 2 (some .char) site (P t V i u fm) (E u) [] 0 0 := by
  refine Law.of_walk (plainFor_of_name (by decide +kernel)) (by decide +kernel) (by decide +kernel) (by decide) (fun _ _ h => by rw [h.1]; rfl) (fun _ U U' hal hh h => ⟨h.1, h.2.1.mv hal hh, h.2.2.1, h.2.2.2.1.there hal hh, h.2.2.2.2⟩) (fun r U U' V V' h1 hal h2 h => XT.PureE.mv r U U' V V' h1 hal h2 h) ?_
  intro p e s m args below meth c s₁ X0 hexec hbytes hml hret hlk hnm hown hh0 W hP
  obtain ⟨rfl, hV, hu, s1, rf⟩ := hP
  have v31 := hV.2.2.2
  have hi : i < V.slots.size := (Array.getElem?_eq_some_iff.mp hu).1
  have c1 : Steps p.tables e below (s₁.setTop (entryFrame m #[.ref t, .int (Int32.ofNat i)] 2)) (s₁.setTop (mkF m 0 #[.val (.ref t), .val (.int (Int32.ofNat i))] [])) := entry rfl
  have c2 : Steps p.tables e below (s₁.setTop (entryFrame m #[.ref t, .int (Int32.ofNat i)] 2)) (s₁.setTop (mkF m 3 #[.val (.ref t), .val (.int (Int32.ofNat i))] [.int (Int32.ofNat V.slots.size), .int (Int32.ofNat i)])) := c1.trans (by
    refine XS.iloadN X0.here hexec rfl (hb hbytes d0) rfl ?_
    refine XS.aloadN X0.here hexec rfl (hb hbytes d1) rfl rfl ?_
    refine X0.alen hexec (hV.mv X0.warmed.alike hh0) rfl rfl (hb hbytes d2) ?_
    exact Steps.refl _)
  obtain ⟨v3, T3, X3, E3, g3⟩ := X0.callS hexec (JO.Str_checkIndex.law l (Int32.ofNat i) (Int32.ofNat V.slots.size) fm) hown (wks W (staticW "java/lang/StringLatin1" 9 JO.Str_checkIndex.yN)) (wk W JO.Str_checkIndex.tab) (W := 0) (Nat.le_of_ble_eq_true rfl) (Nat.le_of_ble_eq_true rfl) (Nat.le_refl _) (Nat.le_refl _) (g := (mkF m 3 #[.val (.ref t), .val (.int (Int32.ofNat i))] [.int (Int32.ofNat V.slots.size), .int (Int32.ofNat i)])) rfl (by rw [hml]; rfl) c2 (argsL := [.int (Int32.ofNat i), .int (Int32.ofNat V.slots.size)]) (rest := []) rfl rfl (by show 2 * 0 + 0 ≤ _; decide) (hb hbytes d3) (⟨rfl, rf, s1.there X0.warmed.alike hh0, Int32.ofNat_not_neg (by omega), lt32 v31 hi⟩)
  obtain ⟨rfl, q3⟩ := E3
  have hh3 := q3.trans hh0
  have c4 : Steps p.tables e below (s₁.setTop (entryFrame m #[.ref t, .int (Int32.ofNat i)] 2)) (T3.setTop (mkF m 14 #[.val (.ref t), .val (.int (Int32.ofNat i))] [.int (chr8 u)])) := Steps.trans g3 (by
    refine XS.aloadN X3.here hexec rfl (hb hbytes d6) rfl rfl ?_
    refine XS.iloadN X3.here hexec rfl (hb hbytes d7) rfl ?_
    refine X3.aget hexec (hV.mv X3.warmed.alike hh3) rfl hu rfl rfl (hb hbytes d8) ?_
    refine sipushV X3.here hexec rfl 255 (hb hbytes d9) (by decide) ?_
    refine XS.iand X3.here hexec rfl (hb hbytes d12) rfl ?_
    refine i2c X3.here hexec rfl (hb hbytes d13) rfl ?_
    exact Steps.refl _)
  exact ⟨T3, some (.int (chr8 u)), _, _, _, X3, rfl, rfl, rfl, (fun h => by cases h), ⟨rfl, hh3⟩, fun fs hl => c4.trans (X3.ireturnOut hexec hret (narrow_c _) (Or.inr (Or.inr (Or.inr (Or.inl rfl)))) (hb hbytes d14) hl)⟩
end LChA
end StrChars
namespace StrChars.Road
open Jvm Sem ClassFile Op Lib Jvm.Stand Jvm.Free Jvm.Free.XT
open Jvm.Lib.Cold (StaticIs)
theorem consq {a : Array Value} {s : State} {c : Jvm.Cond} {L : List Jvm.Cond} (h0 : c.before a s = true) (h : ∀ w ∈ L, w.before a s = true) : ∀ w ∈ c :: L, w.before a s = true := fun w hw => (List.mem_cons.mp hw).elim (fun e => e ▸ h0) (h w)
/-- the words of String.length(), either coding -/
abbrev wordsLen : List Jvm.Cond := [.code Len.yN Len.yB 1 (some .int), .initialized ST, .fieldLink ST 9 ST "value" "[B", .fieldLink ST 38 ST "COMPACT_STRINGS" "Z", .fieldLink ST 15 ST "coder" "B", .code Cdr.yN Cdr.yB 1 (some .byte), .methodLink ST 335 Cdr.yN, .declares Cdr.yN, .selects ST Cdr.yN Cdr.yN, .instanceMethod Cdr.yN]
theorem tabLen_of {a : Array Value} {s : State} (h : ∀ w ∈ wordsLen, w.before a s = true) : Len.tab.before a s = true := by
  have hc : Cdr.tab.before a s = true := unparts (wk h (.code Cdr.yN Cdr.yB 1 (some .byte))) (wks h (.initialized Cdr.yN.cls :: Cdr.site))
  have q := consq hc h
  exact unparts (wk q (.code Len.yN Len.yB 1 (some .int))) (wks q (.initialized Len.yN.cls :: Len.site))
theorem movedLen {Z s : State} {a0 args : Array Value} (hZ : Z.Warmed39 s.vm) (hw : ∀ d ∈ wordsLen, d.before a0 Z = true) : ∀ d ∈ wordsLen, d.before args s = true := fun d hd => by
  have q := hw d hd
  have t : ∀ d ∈ wordsLen, d = .arrayClass .byte ∨ (d.onTables && d.keepsFace) = true := by decide +kernel
  rcases t d hd with rfl | t
  · exact RoadKit.mvA hZ q
  · exact RoadKit.mv hZ q t
/-- the bytes of the chars cs, low before high -/
def wideBytes : List Int32 → List Value
  | [] => []
  | c :: cs => .int (lo8 c) :: .int (hi8 c) :: wideBytes cs
theorem wide_lo (d : Value) : ∀ (cs : List Int32) (j : Nat), j < cs.length → (wideBytes cs).getD (2 * j) d = .int (lo8 (cs.getD j 0))
  | [], j, h => absurd h (Nat.not_lt_zero j)
  | c :: cs, 0, _ => rfl
  | c :: cs, j + 1, h => by
    have q := wide_lo d cs j (by simpa using h)
    rw [show 2 * (j + 1) = 2 * j + 1 + 1 from by omega]
    simpa [wideBytes] using q
theorem wide_hi (d : Value) : ∀ (cs : List Int32) (j : Nat), j < cs.length → (wideBytes cs).getD (2 * j + 1) d = .int (hi8 (cs.getD j 0))
  | [], j, h => absurd h (Nat.not_lt_zero j)
  | c :: cs, 0, _ => rfl
  | c :: cs, j + 1, h => by
    have q := wide_hi d cs j (by simpa using h)
    rw [show 2 * (j + 1) + 1 = 2 * j + 1 + 1 + 1 from by omega]
    simpa [wideBytes] using q
theorem low_at (d : Value) (cs : List Int32) (j : Nat) (h : j < cs.length) : (cs.map fun c => Value.int (lo8 c)).getD j d = .int (lo8 (cs.getD j 0)) := by
  simp [List.getD_eq_getElem?_getD, h]
/-- an array of N2 bytes vs codes the chars cs by the coder cd -/
def CodA (cs : List Int32) (cd N2 : Int32) (vs : List Value) : Prop := (cd = 0 ∧ N2 = Int32.ofNat cs.length ∧ vs = (cs.map fun c => Value.int (lo8 c)) ∧ ∀ c ∈ cs, ¬ 255 < c) ∨ (cd = 1 ∧ N2 = Int32.ofNat (2 * cs.length) ∧ vs = wideBytes cs ∧ ∃ c ∈ cs, 255 < c)
theorem CodA.cod {cs : List Int32} {cd N2 : Int32} {vs : List Value} {V : Cell} (h : CodA cs cd N2 vs) (hn : 2 * cs.length < 2 ^ 31) (hs : V.slots.size = N2.toNatClampNeg) (hv : RoadKit.Has V vs (.int 0)) : Cod cd cs.length (fun j => cs.getD j 0) V := by
  rcases h with ⟨rfl, rfl, rfl, h⟩ | ⟨rfl, rfl, rfl, c, hc, hw⟩
  · rw [n32 (by omega)] at hs
    exact Or.inl ⟨rfl, hs, fun j hj => ⟨by rw [hv j (by omega), low_at _ _ _ hj], by
      have e : cs.getD j 0 = cs[j] := by simp [List.getD_eq_getElem?_getD, hj]
      show ¬ 255 < cs.getD j 0
      rw [e]; exact h _ (List.getElem_mem _)⟩⟩
  · rw [n32 (by omega)] at hs
    obtain ⟨j, hj, rfl⟩ := List.getElem_of_mem hc
    exact Or.inr ⟨rfl, hs, fun j hj => ⟨by rw [hv _ (by omega), wide_lo _ _ _ hj], by rw [hv _ (by omega), wide_hi _ _ _ hj]⟩, j, hj, by
      have e : cs.getD j 0 = cs[j] := by simp [List.getD_eq_getElem?_getD, hj]
      show 255 < cs.getD j 0
      rw [e]; exact hw⟩
/-- an object of exactly java/lang/String, its two fields found: as the laws ask it -/
theorem strObj {Z U : State} {a0 : Array Value} {kI : Nat} (wi : (Jvm.Cond.instantiable ST kI).before a0 Z = true) (al : Z.vm.Alike U.vm) {x : Addr} {v0 c0 : Value} (E : RoadKit.Exa Z U.heap x ST) (V : RoadKit.Fld Z U.heap x ST "value" "[B" v0) (C : RoadKit.Fld Z U.heap x ST "coder" "B" c0) :
    ∃ (D : Cell) (fV fC : Field), Blank ST x D U ∧ Found ST "value" "[B" fV U ∧ Found ST "coder" "B" fC U ∧ D.slots[fV.slot]? = some v0 ∧ D.slots[fC.slot]? = some c0 ∧ RoadKit.slotOf Z ST "value" "[B" = fV.slot ∧ RoadKit.slotOf Z ST "coder" "B" = fC.slot := by
  obtain ⟨D, cfV, kV, iV, fV, hD, gV, stV, knV, obV, asV, slV⟩ := V
  obtain ⟨D', cfC, kC, iC, fC, hD', gC, stC, -, -, asC, slC⟩ := C
  cases hD.symm.trans hD'
  obtain ⟨D2, kD, e1, e2, e3, e4, e5⟩ := E
  cases hD.symm.trans e1
  obtain ⟨c2, k2, i1, i2, i3, -⟩ := Cond.instantiable_spec wi
  cases e2.symm.trans i1
  cases e3.symm.trans i2
  obtain ⟨kU, u1, u2⟩ := al.2.2 _ _ e3
  exact ⟨D, fV, fC, ⟨hD, ⟨knV, fun q hq => by rw [hq] at obV; cases obV⟩, by rw [al.findClass]; exact e2, kU, u1, by rw [u2]; exact i3, by rw [u2]; exact e5 i3⟩, ⟨SBG.found_only al ⟨cfV, kV, iV, gV⟩, stV⟩, ⟨SBG.found_only al ⟨cfC, kC, iC, gC⟩, stC⟩, slV, slC, by simp [RoadKit.slotOf, gV], by simp [RoadKit.slotOf, gC]⟩
theorem sta_is {Z U : State} (al : Z.vm.Alike U.vm) {C n d : String} {v : Value} (S : RoadKit.Sta Z U.heap C n d v) : StaticIs U C n d v := by
  obtain ⟨cfS, iS, kS, fS, st, cS, t1, t2, t3, t4, t5, t6, t7⟩ := S
  exact StaticIs.there (s := { Z with heap := U.heap }) ⟨cfS, iS, kS, fS, st, cS, t1, t2, t3, t4, t5, (fun q => by rw [q] at t6; cases t6), t7⟩ al rfl
/-- **length() OF SUCH A STRING** -/
theorem lenW {p : Program} {l : Launch} {e : Env} {R : Room} {s : State} {args : Array Value} {below : List Frame} {len W : Nat} {Z : State} {a0 : Array Value} {h : Heap} (hZ : Z.Warmed39 s.vm) (hw : ∀ d ∈ wordsLen, d.before a0 Z = true) {kI : Nat} (wi : (Jvm.Cond.instantiable ST kI).before a0 Z = true)
    {x t : Addr} {kb : ClassId} {cs : List Int32} {cd N2 z : Int32} {vs : List Value} (E : RoadKit.Exa Z h x ST) (V : RoadKit.Fld Z h x ST "value" "[B" (.ref t)) (C : RoadKit.Fld Z h x ST "coder" "B" (.int cd)) (K : RoadKit.Arv Z h t kb .byte N2 vs (.int 0)) (hc : CodA cs cd N2 vs) (hb : ∀ c ∈ cs, ¬ c < 0 ∧ ¬ (65535 : Int32) < c)
    (S : RoadKit.Sta Z h ST "COMPACT_STRINGS" "Z" (.int z)) (hz : ¬ z = 0) (l2 : cs.length ≤ 4000) (hfr : 2 ≤ R.frames) (hlo : W + 25 ≤ R.locals) :
    Back l R p e below s args (⟨"java/lang/String", "length", "()I"⟩ : MethodName) len W (fun P a => a = #[.ref x] ∧ P.U.heap = h ∧ P.cells + 0 ≤ R.cells ∧ P.slots + 0 ≤ R.slots)
      (fun P _ v B => ∃ L, (v = some (.int (Int32.ofNat cs.length)) ∧ L = [] ∧ B.U.heap = h) ∧ B.locs = P.locs ++ L ∧ B.cells = P.cells + 0 ∧ B.slots = P.slots + 0) := by
  obtain ⟨A, K1, K2, K3, K4, K5, K6⟩ := K
  have hcod := hc.cod (by omega) K3 K5
  intro m meth c P g ig mk a X hg hsize hdg hW hn hp'
  obtain ⟨rfl, rfl, r1, r2⟩ := hp'
  have al : Z.vm.Alike P.U.vm := hZ.alike.trans X.warmed.alike
  obtain ⟨D, fV, fC, hB, F1, F2, g1, g2, -, -⟩ := strObj wi al E V C
  have hx : Txt x t A cd cs.length (fun j => cs.getD j 0) P.U := ⟨⟨_, hB.2.2.1, D, hB.1, rfl, by cases q : D.vm <;> first | rfl | exact absurd q (hB.2.1.2 _)⟩, Has.of hB F1 g1, Has.of hB F2 g2, ⟨K1.1, State.isArrayOf_alike al K1.2.1, K1.2.2, by rcases hcod with ⟨-, q, -⟩ | ⟨-, q, -⟩ <;> omega⟩, hcod, fun j hj => by
    have e : cs.getD j 0 = cs[j] := by simp [List.getD_eq_getElem?_getD, hj]
    show ¬ cs.getD j 0 < 0 ∧ ¬ 65535 < cs.getD j 0
    rw [e]; exact hb _ (List.getElem_mem _)⟩
  obtain ⟨v, B, X', ⟨⟨hv, hh⟩, hl, hk, hs⟩, st⟩ := Len.pays x t A cd cs.length (fun j => cs.getD j 0) z (tabLen_of (movedLen hZ hw)) hfr hlo m meth c P g ig mk _ X hg hsize hdg hW hn ⟨r1, r2, rfl, hx, sta_is al S, hz⟩
  exact ⟨v, B, X', ⟨[], ⟨hv, rfl, hh⟩, hl, hk, hs⟩, st⟩
end StrChars.Road
namespace StrChars.Road
open Jvm Sem ClassFile Op Lib Jvm.Stand Jvm.Free Jvm.Free.XT
open Jvm.Lib.Cold (StaticIs)
/-- the road's facts of a String, as the laws ask it -/
theorem txt_of {Z U : State} {a0 : Array Value} {kI : Nat} (wi : (Jvm.Cond.instantiable ST kI).before a0 Z = true) (al : Z.vm.Alike U.vm) {x t : Addr} {kb : ClassId} {cs : List Int32} {cd N2 : Int32} {vs : List Value} (E : RoadKit.Exa Z U.heap x ST) (V : RoadKit.Fld Z U.heap x ST "value" "[B" (.ref t)) (C : RoadKit.Fld Z U.heap x ST "coder" "B" (.int cd)) (K : RoadKit.Arv Z U.heap t kb .byte N2 vs (.int 0)) (hc : CodA cs cd N2 vs) (hb : ∀ c ∈ cs, ¬ c < 0 ∧ ¬ (65535 : Int32) < c) (l2 : cs.length ≤ 4000) :
    ∃ A, Txt x t A cd cs.length (fun j => cs.getD j 0) U := by
  obtain ⟨A, K1, K2, K3, K4, K5, K6⟩ := K
  have hcod := hc.cod (by omega) K3 K5
  obtain ⟨D, fV, fC, hB, F1, F2, g1, g2, -, -⟩ := strObj wi al E V C
  exact ⟨A, ⟨_, hB.2.2.1, D, hB.1, rfl, by cases q : D.vm <;> first | rfl | exact absurd q (hB.2.1.2 _)⟩, Has.of hB F1 g1, Has.of hB F2 g2, ⟨K1.1, State.isArrayOf_alike al K1.2.1, K1.2.2, by rcases hcod with ⟨-, q, -⟩ | ⟨-, q, -⟩ <;> omega⟩, hcod, fun j hj => by
    have e : cs.getD j 0 = cs[j] := by simp [List.getD_eq_getElem?_getD, hj]
    show ¬ cs.getD j 0 < 0 ∧ ¬ 65535 < cs.getD j 0
    rw [e]; exact hb _ (List.getElem_mem _)⟩
end StrChars.Road
namespace StrChars
open Jvm Sem ClassFile Op Lib Jvm.Stand Jvm.Free.XT Jvm.Free.ALB Jvm.Free.JM Jvm.Free
open Jvm.Lib.Cold (StaticIs)
namespace ChN
def yN : MethodName := ⟨"java/lang/String", "charAt", "(I)C"⟩
abbrev yB : ByteArray := jdk_42_method_56_code
theorem d0 : decode yB 0 = .ok (.aload_n 0, 1) := by decide +kernel
theorem d1 : decode yB 1 = .ok (.invokevirtual 492, 3) := by decide +kernel
theorem d4 : decode yB 4 = .ok (.ifCond (.eq) 12, 3) := by decide +kernel
theorem d7 : decode yB 7 = .ok (.aload_n 0, 1) := by decide +kernel
theorem d8 : decode yB 8 = .ok (.getfield 9, 3) := by decide +kernel
theorem d11 : decode yB 11 = .ok (.iload_n 1, 1) := by decide +kernel
theorem d12 : decode yB 12 = .ok (.invokestatic 495, 3) := by decide +kernel
theorem d15 : decode yB 15 = .ok (.ireturn, 1) := by decide +kernel
def site : List Cond := [.fieldLink "java/lang/String" 9 "java/lang/String" "value" "[B", IsL.tab, LChA.tab] ++ virtW "java/lang/String" 492 "java/lang/String" IsL.yN IsL.yN ++ staticW "java/lang/String" 495 LChA.yN
def tab : Cond := tabOf yN yB 2 (some .char) site
def P (x t : Addr) (V : Cell) (n : Nat) (f : Nat → Int32) (z : Int32) (fm : Value) (i : Nat) (args : Array Value) (s : State) : Prop := args = #[.ref x, .int (Int32.ofNat i)] ∧ Txt x t V 0 n f s ∧ i < n ∧ StaticIs s "java/lang/String" "COMPACT_STRINGS" "Z" (.int z) ∧ ¬ z = 0 ∧ StaticIs s "jdk/internal/util/Preconditions" "SIOOBE_FORMATTER" "Ljava/util/function/BiFunction;" fm ∧ fm.isRef = true
def E (f : Nat → Int32) (i : Nat) (r : Option Value) (s u : State) : Prop := XT.PureE (some (.int (f i))) r s u
/-- charAt(i) of a Latin-1 String of n chars, i < n: f i -/
theorem law (l : Launch) (x t : Addr) (V : Cell) (n : Nat) (f : Nat → Int32) (z : Int32) (fm : Value) (i : Nat) : Law l yN 2 1 3 40 yB 2 (some .char) site (P x t V n f z fm i) (E f i) [] 0 0 := by
  refine Law.of_walk (plainFor_of_name (by decide +kernel)) (by decide +kernel) (by decide +kernel) (by decide) (fun _ _ h => by rw [h.1]; rfl) (fun _ U U' hal hh h => ⟨h.1, h.2.1.mv hal hh, h.2.2.1, h.2.2.2.1.there hal hh, h.2.2.2.2.1, h.2.2.2.2.2.1.there hal hh, h.2.2.2.2.2.2⟩) (fun r U U' V V' h1 hal h2 h => XT.PureE.mv r U U' V V' h1 hal h2 h) ?_
  intro p e s m args below meth c s₁ X0 hexec hbytes hml hret hlk hnm hown hh0 W hP
  obtain ⟨rfl, hx, hi, s1, hz, s3, rf⟩ := hP
  have v31 := hx.2.2.2.1.2.2.2
  have hr := hx.2.2.2.2.2 i hi
  have hx0 := hx.mv X0.warmed.alike hh0
  have c1 : Steps p.tables e below (s₁.setTop (entryFrame m #[.ref x, .int (Int32.ofNat i)] 2)) (s₁.setTop (mkF m 1 #[.val (.ref x), .val (.int (Int32.ofNat i))] [.ref x])) := Steps.trans (entry rfl) (by
    show Steps p.tables e below (s₁.setTop (mkF m 0 #[.val (.ref x), .val (.int (Int32.ofNat i))] [])) _
    refine XS.aloadN X0.here hexec rfl (hb hbytes d0) rfl rfl ?_
    exact Steps.refl _)
  obtain ⟨v2, T2, X2, E2, g2⟩ := X0.callV hexec (IsL.law l x 0 z) hown (wks W (virtW "java/lang/String" 492 "java/lang/String" IsL.yN IsL.yN)) rfl (by decide) (wk W IsL.tab) (W := 0) (Nat.le_of_ble_eq_true rfl) (Nat.le_of_ble_eq_true rfl) (Nat.le_refl _) (Nat.le_refl _) (hx0.1.fc X0.warmed.alike) hx0.1.is (g := (mkF m 1 #[.val (.ref x), .val (.int (Int32.ofNat i))] [.ref x])) rfl (by rw [hml]; rfl) c1 (argsL := []) (rest := []) rfl rfl (by show 2 * 0 + 0 ≤ _; decide) (hb hbytes d1) (⟨rfl, hx0.2.2.1, hx.2.2.2.2.1.cd, s1.there X0.warmed.alike hh0, hz⟩)
  obtain ⟨rfl, q2⟩ := E2
  have hh2 := q2.trans hh0
  have hx2 := hx.mv X2.warmed.alike hh2
  obtain ⟨-, k1, k2⟩ | ⟨k0, -⟩ := hx.2.2.2.2.1
  · have c3 : Steps p.tables e below (s₁.setTop (entryFrame m #[.ref x, .int (Int32.ofNat i)] 2)) (T2.setTop (mkF m 8 #[.val (.ref x), .val (.int (Int32.ofNat i))] [.ref x])) := Steps.trans g2 (by
      refine XS.ifNo X2.here hexec rfl (hb hbytes d4) rfl (i0_eq_f (by decide)) ?_
      refine XS.aloadN X2.here hexec rfl (hb hbytes d7) rfl rfl ?_
      exact Steps.refl _)
    obtain ⟨T4, X4, q4, st4⟩ := X2.hget hexec hown (wk W (.fieldLink "java/lang/String" 9 "java/lang/String" "value" "[B")) hx2.2.1 (g := (mkF m 8 #[.val (.ref x), .val (.int (Int32.ofNat i))] [.ref x])) rfl (rest := []) rfl (hb hbytes d8)
    have hh4 := q4.trans hh2
    have c5 : Steps p.tables e below (s₁.setTop (entryFrame m #[.ref x, .int (Int32.ofNat i)] 2)) (T4.setTop (mkF m 12 #[.val (.ref x), .val (.int (Int32.ofNat i))] [.int (Int32.ofNat i), .ref t])) := (c3.trans (st4 _ (Steps.refl _))).trans (by
      refine XS.iloadN X4.here hexec rfl (hb hbytes d11) rfl ?_
      exact Steps.refl _)
    obtain ⟨v6, T6, X6, E6, g6⟩ := X4.callS hexec (LChA.law l t V i (lo8 (f i)) fm) hown (wks W (staticW "java/lang/String" 495 LChA.yN)) (wk W LChA.tab) (W := 0) (Nat.le_of_ble_eq_true rfl) (Nat.le_of_ble_eq_true rfl) (Nat.le_refl _) (Nat.le_refl _) (g := (mkF m 12 #[.val (.ref x), .val (.int (Int32.ofNat i))] [.int (Int32.ofNat i), .ref t])) rfl (by rw [hml]; rfl) c5 (argsL := [.ref t, .int (Int32.ofNat i)]) (rest := []) rfl rfl (by show 2 * 0 + 0 ≤ _; decide) (hb hbytes d12) (⟨rfl, hx.2.2.2.1.mv X4.warmed.alike hh4, (k2 i hi).1, s3.there X4.warmed.alike hh4, rf⟩)
    obtain ⟨rfl, q6⟩ := E6
    rw [chr8_lo8 hr.1 (k2 i hi).2] at g6
    exact ⟨T6, some (.int (f i)), _, _, _, X6, rfl, rfl, rfl, (fun h => by cases h), ⟨rfl, q6.trans hh4⟩, fun fs hl => Steps.trans g6 (X6.ireturnOut hexec hret (narrow_ch hr.1 hr.2) (Or.inr (Or.inr (Or.inr (Or.inl rfl)))) (hb hbytes d15) hl)⟩
  · exact absurd k0 (by decide)
theorem pays {l : Launch} {R : Room} {p : Program} {e : Env} {below : List Frame} {s : State} {sargs : Array Value} {len W : Nat} (x t : Addr) (V : Cell) (n : Nat) (f : Nat → Int32) (z : Int32) (fm : Value) (i : Nat) (htab : tab.before sargs s = true) (hfr : 4 ≤ R.frames) (hlo : W + 53 ≤ R.locals) :
    Back l R p e below s sargs yN len W (fun A₁ a₁ => A₁.cells + 0 ≤ R.cells ∧ A₁.slots + 0 ≤ R.slots ∧ P x t V n f z fm i a₁ A₁.U) (fun A₁ _ v₁ B₁ => E f i v₁ A₁.U B₁.U ∧ B₁.locs = A₁.locs ++ [] ∧ B₁.cells = A₁.cells + 0 ∧ B₁.slots = A₁.slots + 0) :=
  (law l x t V n f z fm i).pays htab hfr (by omega)
end ChN
end StrChars
namespace StrChars.Road
open Jvm Sem ClassFile Op Lib Jvm.Stand Jvm.Free Jvm.Free.XT
open Jvm.Lib.Cold (StaticIs)
/-- the words of String.charAt(int), the Latin-1 road alone -/
abbrev wordsChN : List Jvm.Cond := [.code ChN.yN ChN.yB 2 (some .char), .initialized ST, .fieldLink ST 9 ST "value" "[B", .fieldLink ST 38 ST "COMPACT_STRINGS" "Z", .fieldLink ST 15 ST "coder" "B", .code IsL.yN IsL.yB 1 (some .boolean), .methodLink ST 492 IsL.yN, .declares IsL.yN, .selects ST IsL.yN IsL.yN, .instanceMethod IsL.yN,
  .methodLink ST 495 LChA.yN, .static LChA.yN, .code LChA.yN LChA.yB 2 (some .char), .initialized "java/lang/StringLatin1", .methodLink "java/lang/StringLatin1" 9 JO.Str_checkIndex.yN, .static JO.Str_checkIndex.yN, .code JO.Str_checkIndex.yN JO.Str_checkIndex.yB 2 none,
  .fieldLink ST 1053 "jdk/internal/util/Preconditions" "SIOOBE_FORMATTER" "Ljava/util/function/BiFunction;", .methodLink ST 1059 JC.PreCheck.yN, .static JC.PreCheck.yN, .code JC.PreCheck.yN JC.PreCheck.yB 3 (some .int), .initialized "jdk/internal/util/Preconditions"]
theorem tabChN_of {a : Array Value} {s : State} (h : ∀ w ∈ wordsChN, w.before a s = true) : ChN.tab.before a s = true := by
  have hp : JC.PreCheck.tab.before a s = true := unparts (wk h (.code JC.PreCheck.yN JC.PreCheck.yB 3 (some .int))) (wks h (.initialized JC.PreCheck.yN.cls :: JC.PreCheck.site))
  have qk := consq hp h
  have hk : JO.Str_checkIndex.tab.before a s = true := unparts (wk qk (.code JO.Str_checkIndex.yN JO.Str_checkIndex.yB 2 none)) (wks qk (.initialized JO.Str_checkIndex.yN.cls :: JO.Str_checkIndex.site))
  have ql := consq hk h
  have hl : LChA.tab.before a s = true := unparts (wk ql (.code LChA.yN LChA.yB 2 (some .char))) (wks ql (.initialized LChA.yN.cls :: LChA.site))
  have hi : IsL.tab.before a s = true := unparts (wk h (.code IsL.yN IsL.yB 1 (some .boolean))) (wks h (.initialized IsL.yN.cls :: IsL.site))
  have q := consq hi (consq hl h)
  exact unparts (wk q (.code ChN.yN ChN.yB 2 (some .char))) (wks q (.initialized ChN.yN.cls :: ChN.site))
theorem movedChN {Z s : State} {a0 args : Array Value} (hZ : Z.Warmed39 s.vm) (hw : ∀ d ∈ wordsChN, d.before a0 Z = true) : ∀ d ∈ wordsChN, d.before args s = true := fun d hd => by
  have t : ∀ d ∈ wordsChN, (d.onTables && d.keepsFace) = true := by decide +kernel
  exact RoadKit.mv hZ (hw d hd) (t d hd)
/-- **charAt(i) OF A LATIN-1 STRING**, i < n: the char -/
theorem chN {p : Program} {l : Launch} {e : Env} {R : Room} {s : State} {args : Array Value} {below : List Frame} {len W : Nat} {Z : State} {a0 : Array Value} {h : Heap} (hZ : Z.Warmed39 s.vm) (hw : ∀ d ∈ wordsChN, d.before a0 Z = true) {kI : Nat} (wi : (Jvm.Cond.instantiable ST kI).before a0 Z = true)
    {x t : Addr} {kb : ClassId} {cs : List Int32} {N2 z : Int32} {vs : List Value} {fm : Value} {i : Nat} {j : Int32} (E : RoadKit.Exa Z h x ST) (V : RoadKit.Fld Z h x ST "value" "[B" (.ref t)) (C : RoadKit.Fld Z h x ST "coder" "B" (.int 0)) (K : RoadKit.Arv Z h t kb .byte N2 vs (.int 0)) (hc : CodA cs 0 N2 vs) (hb : ∀ c ∈ cs, ¬ c < 0 ∧ ¬ (65535 : Int32) < c)
    (S : RoadKit.Sta Z h ST "COMPACT_STRINGS" "Z" (.int z)) (hz : ¬ z = 0) (F : RoadKit.Sta Z h "jdk/internal/util/Preconditions" "SIOOBE_FORMATTER" "Ljava/util/function/BiFunction;" fm) (rf : fm.isRef = true) (l2 : cs.length ≤ 4000) (hi : i < cs.length) (hj : j = Int32.ofNat i) (hfr : 4 ≤ R.frames) (hlo : W + 53 ≤ R.locals) :
    Back l R p e below s args (⟨"java/lang/String", "charAt", "(I)C"⟩ : MethodName) len W (fun P a => a = #[.ref x, .int j] ∧ P.U.heap = h ∧ P.cells + 0 ≤ R.cells ∧ P.slots + 0 ≤ R.slots)
      (fun P _ v B => ∃ L, (v = some (.int (cs.getD i 0)) ∧ L = [] ∧ B.U.heap = h) ∧ B.locs = P.locs ++ L ∧ B.cells = P.cells + 0 ∧ B.slots = P.slots + 0) := by
  subst hj
  intro m meth c P g ig mk a X hg hsize hdg hW hn hp'
  obtain ⟨rfl, rfl, r1, r2⟩ := hp'
  have al : Z.vm.Alike P.U.vm := hZ.alike.trans X.warmed.alike
  obtain ⟨A, hx⟩ := txt_of wi al E V C K hc hb l2
  obtain ⟨v, B, X', ⟨⟨hv, hh⟩, hl, hk, hs⟩, st⟩ := ChN.pays x t A cs.length (fun j => cs.getD j 0) z fm i (tabChN_of (movedChN hZ hw)) hfr hlo m meth c P g ig mk _ X hg hsize hdg hW hn ⟨r1, r2, rfl, hx, hi, sta_is al S, hz, sta_is al F, rf⟩
  exact ⟨v, B, X', ⟨[], ⟨hv, rfl, hh⟩, hl, hk, hs⟩, st⟩
/-- what backV says of its String, as the contracts of this text ask it: cs's low bytes, coder 0 -/
theorem codOf {cs : List Int32} {n : Nat} (hn : cs.length = n) (hb : ∀ c ∈ cs, ¬ 255 < c) : CodA cs 0 (Int32.ofNat n) ((cs.map lo8).map Value.int) := Or.inl ⟨rfl, by rw [hn], by simp [List.map_map, Function.comp_def], hb⟩
end StrChars.Road
end Jvm.Pilot.@@N@@

namespace Jvm.Pilot.@@N@@
open Jvm Jvm.ClassFile Sem Op Lib Jvm.Free Jvm.Stand Jvm.LawKit Jvm.RoadKit Bundle Jvm.Pilot.@@N@@.Jvm.D
section OwnKit
abbrev sI (x : Int32) : Slot := .val (.int x)
abbrev sR (a : Addr) : Slot := .val (.ref a)
variable {p : Program} {l : Launch} {e : Env} {R : Room} {s : State} {m : MethodId} {args : Array Value} {below : List Frame} {meth : Method} {c : Code} {T : State} {locs : List Loc} {cells slots : Nat}
def own_Go (p : Program) (e : Env) (below : List Frame) (P : Outcome → State → Prop) (U : State) : Prop := ∃ s₂ o, Steps p.tables e below U s₂ ∧ s₂.status = .running ∧ Ended s₂ below o ∧ P o s₂
abbrev own_Post (s : State) (Q : Option Value → Heap → List Loc → Prop) (K N : Nat) : Outcome → State → Prop := fun o U => ∃ v L, o = .returned v ∧ Q v U.heap L ∧ FrameEnd s o U L K N
theorem own_to {P : Outcome → State → Prop} {U V : State} (k : own_Go p e below P V) (h : ∀ t, Steps p.tables e below V t → Steps p.tables e below U t) : own_Go p e below P U := by
  obtain ⟨s₂, o, a, r⟩ := k
  exact ⟨s₂, o, h _ a, r⟩
theorem own_start {U : State} {K N : Nat} (Q : Option Value → Heap → List Loc → Prop) (k : own_Go p e below (own_Post s Q K N) U) : ∃ s₂ o, Steps p.tables e below U s₂ ∧ s₂.status = .running ∧ Ended s₂ below o ∧ ∃ v L, o = .returned v ∧ Q v s₂.heap L ∧ FrameEnd s o s₂ L K N := k
abbrev own_R (f c s l : Nat) : Room := { frames := f, cells := c, slots := s, locals := l }
abbrev own_MF (l : Launch) (y : MethodName) (bs : ByteArray) (ml : Nat) (rt : Option FieldType) (ws : List Jvm.Cond) (R : Room) (av : Array Value) (Z : State) (h0 : Heap) (Q : Option Value → Heap → List Loc → Prop) : Prop :=
  MetFree l y (head1 (Jvm.Cond.code y bs ml rt :: ws) R) (fun a U => a = av ∧ Z.Warmed39 U.vm ∧ U.heap = h0) (fun _ _ _ _ _ => True) (fun _ U o U' => ∃ v L, o = .returned v ∧ Q v U'.heap L ∧ FrameEnd U o U' L R.cells R.slots)
theorem own_body {y : MethodName} {bs : ByteArray} {ml : Nat} {rt : Option FieldType} {ws : List Jvm.Cond} {av : Array Value} {Z : State} {h0 : Heap} {Q : Option Value → Heap → List Loc → Prop} {F : MethodId → JFrame} (hp : plainFor y = true) (he : ∀ m, entryFrame m av ml = F m)
    (H : ∀ (p : Program) (e : Env) (s : State) (m : MethodId) (below : List Frame) (meth : Method) (c : Code) (s₁ : State), p.tables.exec = Jvm.exec → c.code = bs → meth.sig.returnType = rt → meth.locks = false → c.maxLocals = ml → Z.Warmed39 s.vm → s.vm.findClass y.cls = some m.cls → meth.name = y.name → s.heap = h0 → Stand p l e R s m av below meth c s₁ [] 0 0 → s₁.heap = h0 → own_Go p e below (own_Post s Q R.cells R.slots) (s₁.setTop (F m))) :
    own_MF l y bs ml rt ws R av Z h0 Q := by
  refine MetFree.of_bodySF hp hisR ?_
  intro p e s m args below meth c s₁ Bd hml0 hP _
  obtain ⟨rfl, hZ, hh⟩ := hP
  refine own_start Q ?_
  exact own_to (H p e s m below meth c s₁ Bd.exec Bd.bytes Bd.returns (BodyLoose.notSynchronized Bd) hml0 hZ (findClass_of_methodNamed Bd.named) (name_of_methodNamed Bd.named Bd.method).1 hh (Stand.of_body Bd) (by rw [← hh, Bd.state]; rfl)) (fun t k => castTop (he m) k)
section Call
variable {y z : MethodName} {bs : ByteArray} {ml : Nat} {rt : Option FieldType} {rm : Room} {as' : Array Value} {Z : State} {h : Heap} {Q : Option Value → Heap → List Loc → Prop} {a0 : Array Value} {own C : String} {index W K N : Nat} {g : JFrame} {argsL rest : List Value} {b : Addr}
abbrev own_Rt (p : Program) (l : Launch) (e : Env) (R : Room) (s : State) (m : MethodId) (args : Array Value) (below : List Frame) (meth : Method) (c : Code) (T : State) (locs : List Loc) (K N : Nat) (g : JFrame) (rest : List Value) (Q : Option Value → Heap → List Loc → Prop) : Prop :=
  ∃ (v : Option Value) (T' : State) (h' : Heap) (L' Lc : List Loc), Stand p l e R s m args below meth c T' L' K N ∧ T'.heap = h' ∧ Q v h' Lc ∧ (∀ n0, Fr n0 locs → Fr n0 Lc → Fr n0 L') ∧ ∀ t, Steps p.tables e below (T'.setTop { g with pc := g.pc + 3, stack := v.toList ++ rest }) t → Steps p.tables e below (T.setTop g) t
theorem own_cS (M : own_MF l y bs ml rt [] rm as' Z h Q) (X : Stand p l e R s m args below meth c T locs cells slots) (hx : p.tables.exec = Jvm.exec) (hZ : Z.Warmed39 s.vm) (hown : s.vm.findClass own = some m.cls) (eT : T.heap = h)
    (w1 : (Cond.methodLink own index y).before a0 Z = true) (w2 : (Cond.static y).before a0 Z = true) (w3 : (Cond.initialized y.cls).before a0 Z = true) (w4 : (Cond.code y bs ml rt).before a0 Z = true) (hy : y.cls ≠ "java/lang/invoke/MethodHandle" ∧ y.cls ≠ "java/lang/invoke/VarHandle")
    (hg : g.method = m) (hsize : g.locals.size = c.maxLocals) (hlen : ∀ sig, parseMethodDescriptor y.desc = some sig → argsL.length = sig.parameters.length) (hs : g.stack = argsL.reverse ++ rest) (ha : argsL.toArray = as') (hd : decode c.code g.pc = .ok (.invokestatic index, 3)) (hW : 2 * g.monitorRoom + (rest.map fun v => v.category).sum ≤ W)
    (hK : cells + rm.cells = K) (hN : slots + rm.slots = N) (hk : K ≤ R.cells) (hn : N ≤ R.slots) (hf : rm.frames + 1 ≤ R.frames) (hl : W + (ml + 11) + rm.locals ≤ R.locals) : own_Rt p l e R s m args below meth c T locs K N g rest Q := by
  obtain ⟨v, _, ⟨T', L', k', n'⟩, -, X', ⟨Lc, hQ, l', y', z'⟩, st⟩ := Jvm.LawKit.callS X hx hown (mvT hZ w1) (mvT hZ w2) (mvT hZ w3) (mvT hZ w4) hy (backOf (W := W) M hZ w4 w3 hf hl) hg hsize hlen hs hW hd (fun _ _ => ⟨ha, eT, by rw [hK]; exact hk, by rw [hN]; exact hn⟩)
  dsimp only [Pt.U, Pt.locs, Pt.cells, Pt.slots] at X' l' y' z' st hQ
  subst hK hN y' z'
  exact ⟨v, T', _, L', Lc, X', rfl, hQ, fun n0 a b => by rw [l']; exact Fr.app a b, st⟩
theorem own_cI (M : own_MF l y bs ml none [] rm as' Z h Q) (X : Stand p l e R s m args below meth c T locs cells slots) (hx : p.tables.exec = Jvm.exec) (hZ : Z.Warmed39 s.vm) (hown : s.vm.findClass own = some m.cls) (eT : T.heap = h) (hy1 : y.name = "<init>")
    (w1 : (Cond.methodLink own index y).before a0 Z = true) (w2 : (Cond.instanceMethod y).before a0 Z = true) (w3 : (Cond.initialized y.cls).before a0 Z = true) (w4 : (Cond.code y bs ml none).before a0 Z = true) (hy : y.cls ≠ "java/lang/invoke/MethodHandle" ∧ y.cls ≠ "java/lang/invoke/VarHandle")
    (hg : g.method = m) (hsize : g.locals.size = c.maxLocals) (hlen : ∀ sig, parseMethodDescriptor y.desc = some sig → argsL.length = sig.parameters.length) (hs : g.stack = argsL.reverse ++ .ref b :: rest) (ha : (.ref b :: argsL).toArray = as') (hd : decode c.code g.pc = .ok (.invokespecial index, 3)) (hW : 2 * g.monitorRoom + (rest.map fun v => v.category).sum ≤ W)
    (hK : cells + rm.cells = K) (hN : slots + rm.slots = N) (hk : K ≤ R.cells) (hn : N ≤ R.slots) (hf : rm.frames + 1 ≤ R.frames) (hl : W + (ml + 11) + rm.locals ≤ R.locals) : own_Rt p l e R s m args below meth c T locs K N g rest Q := by
  obtain ⟨v, _, ⟨T', L', k', n'⟩, -, X', ⟨Lc, hQ, l', y', z'⟩, st⟩ := X.specialBack hx hy1 hown (mvT hZ w1) (mvT hZ w2) (mvT hZ w4) hy (backOf (W := W) M hZ w4 w3 hf hl) hg hsize (Steps.refl _) hlen hs hW hd (fun _ _ => ⟨ha, eT, by rw [hK]; exact hk, by rw [hN]; exact hn⟩)
  dsimp only [Pt.U, Pt.locs, Pt.cells, Pt.slots] at X' l' y' z' st hQ
  subst hK hN y' z'
  exact ⟨v, T', _, L', Lc, X', rfl, hQ, fun n0 a b => by rw [l']; exact Fr.app a b, fun t k => st.trans k⟩
theorem own_cV (M : own_MF l z bs ml rt [] rm as' Z h Q) (X : Stand p l e R s m args below meth c T locs cells slots) (hx : p.tables.exec = Jvm.exec) (hZ : Z.Warmed39 s.vm) (hown : s.vm.findClass own = some m.cls) (eT : T.heap = h) (E : Exa Z h b C)
    (w1 : (Cond.methodLink own index y).before a0 Z = true) (w2 : (Cond.declares y).before a0 Z = true) (hnf : NotFace s y) (ws : (Cond.selects C y z).before a0 Z = true) (wm : (Cond.instanceMethod z).before a0 Z = true) (w3 : (Cond.initialized z.cls).before a0 Z = true) (w4 : (Cond.code z bs ml rt).before a0 Z = true) (hy : y.cls ≠ "java/lang/invoke/MethodHandle" ∧ y.cls ≠ "java/lang/invoke/VarHandle")
    (hg : g.method = m) (hsize : g.locals.size = c.maxLocals) (hlen : ∀ sig, parseMethodDescriptor y.desc = some sig → argsL.length = sig.parameters.length) (hs : g.stack = argsL.reverse ++ .ref b :: rest) (ha : (.ref b :: argsL).toArray = as') (hd : decode c.code g.pc = .ok (.invokevirtual index, 3)) (hW : 2 * g.monitorRoom + (rest.map fun v => v.category).sum ≤ W)
    (hK : cells + rm.cells = K) (hN : slots + rm.slots = N) (hk : K ≤ R.cells) (hn : N ≤ R.slots) (hf : rm.frames + 1 ≤ R.frames) (hl : W + (ml + 11) + rm.locals ≤ R.locals) : own_Rt p l e R s m args below meth c T locs K N g rest Q := by
  obtain ⟨cB, kB, i1, i2, i3⟩ := isOf hZ eT E
  obtain ⟨v, _, ⟨T', L', k', n'⟩, -, X', ⟨Lc, hQ, l', y', z'⟩, st⟩ := X.virtualBack hx hown (mvT hZ w1) (mvT hZ w2) hnf (mvT hZ ws) (mvT hZ wm) hy (backOf (W := W) M hZ w4 w3 hf hl) i1 i3 hg hsize (Steps.refl _) hlen hs hW hd (fun _ _ => ⟨ha, eT, by rw [hK]; exact hk, by rw [hN]; exact hn⟩)
  dsimp only [Pt.U, Pt.locs, Pt.cells, Pt.slots] at X' l' y' z' st hQ
  subst hK hN y' z'
  exact ⟨v, T', _, L', Lc, X', rfl, hQ, fun n0 a b => by rw [l']; exact Fr.app a b, fun t k => st.trans k⟩
end Call
theorem own_irem {tb : Tables} [Ours tb] {e : Env} {below : List Frame} {T target : State} {m : MethodId} {c : Code} {g : JFrame} (h : At T m c below) (hx : tb.exec = Jvm.exec) (hg : g.method = m) {x y : Int32} {rest : List Value} (hd : decode c.code g.pc = .ok (.irem, 1)) (hs : g.stack = .int y :: .int x :: rest) (hy : y ≠ 0)
    (hr : Steps tb e below (T.setTop { g with pc := g.pc + 1, stack := .int (x % y) :: rest }) target) : Steps tb e below (T.setTop g) target := by
  refine XS.irem h hx hg hd hs hy ?_
  have q : x - x / y * y = x % y := Jvm.irem_eq_mod x y
  rw [q]; exact hr
section Out
variable {Q : Option Value → Heap → List Loc → Prop} {K N : Nat}
theorem own_out (X : Stand p l e R s m args below meth c T locs cells slots) {v : Option Value} (hv : meth.sig.returnType = none → v = none) (hlk : meth.locks = false) {g : JFrame}
    (st : ∀ fs, (∀ (f : JFrame) (acts : List Action), f.method = m → f.locked = none → f.entered = [] → (doReturn e (T.setTop f) acts v).1 = T.setFrames fs) → Steps p.tables e below (T.setTop g) (T.setFrames fs)) (hq : Q v T.heap locs) (hk : cells ≤ K) (hn : slots ≤ N) : own_Go p e below (own_Post s Q K N) (T.setTop g) := by
  obtain ⟨fs, hr, hrun, hended, hW, hsame⟩ := X.leave (v := v) hv hlk
  exact ⟨_, _, st fs hr, hrun, hended, v, locs, rfl, hq, ⟨_, rfl⟩, hW, hsame.mono hk hn⟩
theorem own_retN (X : Stand p l e R s m args below meth c T locs cells slots) (hx : p.tables.exec = Jvm.exec) {pc : Nat} {Ls : Array Slot} {z w : Int32} {t : FieldType} {rest : List Value} (hret : meth.sig.returnType = some t) (ht : t = .boolean ∨ t = .byte ∨ t = .char ∨ t = .short) (hn' : nar t z = w) (hlk : meth.locks = false)
    (hd : decode c.code pc = .ok (.ireturn, 1)) (hq : Q (some (.int w)) T.heap locs) (hk : cells ≤ K) (hn : slots ≤ N) : own_Go p e below (own_Post s Q K N) (T.setTop (mkF m pc Ls (.int z :: rest))) := by
  subst hn'
  exact own_out X (fun h => by rw [hret] at h; cases h) hlk (fun fs hr => retN X hx hret ht hd hr) hq hk hn
theorem own_retI (X : Stand p l e R s m args below meth c T locs cells slots) (hx : p.tables.exec = Jvm.exec) {pc : Nat} {Ls : Array Slot} {z : Int32} {rest : List Value} (hret : meth.sig.returnType = some .int) (hlk : meth.locks = false)
    (hd : decode c.code pc = .ok (.ireturn, 1)) (hq : Q (some (.int z)) T.heap locs) (hk : cells ≤ K) (hn : slots ≤ N) : own_Go p e below (own_Post s Q K N) (T.setTop (mkF m pc Ls (.int z :: rest))) :=
  own_out X (fun h => by rw [hret] at h; cases h) hlk (fun fs hr => retOut X hx hret rfl (Or.inl ⟨rfl, Or.inl rfl, _, rfl⟩) hd hr) hq hk hn
theorem own_retR (X : Stand p l e R s m args below meth c T locs cells slots) (hx : p.tables.exec = Jvm.exec) {pc : Nat} {Ls : Array Slot} {w : Value} {t : FieldType} {rest : List Value} (hret : meth.sig.returnType = some t) (ht : t.isReference = true) (hw : w.isRef = true) (hlk : meth.locks = false)
    (hd : decode c.code pc = .ok (.areturn, 1)) (hq : Q (some w) T.heap locs) (hk : cells ≤ K) (hn : slots ≤ N) : own_Go p e below (own_Post s Q K N) (T.setTop (mkF m pc Ls (w :: rest))) :=
  own_out X (fun h => by rw [hret] at h; cases h) hlk (fun fs hr => retOut X hx hret (by cases t <;> first | (cases ht; done) | (cases w <;> first | rfl | (cases hw; done))) (Or.inr (Or.inr (Or.inr (Or.inr ⟨rfl, ht, hw⟩)))) hd hr) hq hk hn
theorem own_retV (X : Stand p l e R s m args below meth c T locs cells slots) (hx : p.tables.exec = Jvm.exec) {pc : Nat} {Ls : Array Slot} (hret : meth.sig.returnType = none) (hlk : meth.locks = false)
    (hd : decode c.code pc = .ok (.return_, 1)) (hq : Q none T.heap locs) (hk : cells ≤ K) (hn : slots ≤ N) : own_Go p e below (own_Post s Q K N) (T.setTop (mkF m pc Ls [])) :=
  own_out X (fun _ => rfl) hlk (fun fs hr => X.returnOut hx hret hd hr) hq hk hn
end Out
section OutW
variable {Q : Option Value → Heap → List Loc → Prop} {K N k0 : Nat} {vm0 : Vm}
end OutW
abbrev own_PostH (Z : State) (s : State) (Q : Option Value → Heap → List Loc → Prop) (K N : Nat) : Outcome → State → Prop := fun o U => ∃ v L, o = .returned v ∧ Q v U.heap L ∧ CHr Z consts_1 s.vm s.heap U.vm U.heap ∧ ReturnedEndW s o U L K N
theorem own_startH {Z : State} {U : State} {K N : Nat} (Q : Option Value → Heap → List Loc → Prop) (k : own_Go p e below (own_PostH Z s Q K N) U) : ∃ s₂ o, Steps p.tables e below U s₂ ∧ s₂.status = .running ∧ Ended s₂ below o ∧ ∃ v L, o = .returned v ∧ Q v s₂.heap L ∧ CHr Z consts_1 s.vm s.heap s₂.vm s₂.heap ∧ ReturnedEndW s o s₂ L K N := k
section OutH
variable {Q : Option Value → Heap → List Loc → Prop} {K N k0 : Nat} {vm0 : Vm} {Z : State}
theorem own_outH (X : Stand p l e R (s.setVm vm0) m args below meth c T locs cells slots) (hS : s.Since vm0 k0) (hk0 : k0 ≤ T.heap.size) (hch : CHr Z consts_1 s.vm s.heap T.vm T.heap) {v : Option Value} (hv : meth.sig.returnType = none → v = none) (hlk : meth.locks = false) {g : JFrame}
    (st : ∀ fs, (∀ (f : JFrame) (acts : List Action), f.method = m → f.locked = none → f.entered = [] → (doReturn e (T.setTop f) acts v).1 = T.setFrames fs) → Steps p.tables e below (T.setTop g) (T.setFrames fs)) (hq : Q v T.heap locs) (hk : cells ≤ K) (hn : slots ≤ N) : own_Go p e below (own_PostH Z s Q K N) (T.setTop g) := by
  obtain ⟨fs, hr, hrun, hended, h1, h2, h3, hsame⟩ := X.leaveW hS hk0 (v := v) hv hlk
  exact ⟨_, _, st fs hr, hrun, hended, v, locs, rfl, hq, hch, h1, h2, h3, hsame.mono hk hn⟩
theorem own_retNH (X : Stand p l e R (s.setVm vm0) m args below meth c T locs cells slots) (hx : p.tables.exec = Jvm.exec) (hS : s.Since vm0 k0) (hk0 : k0 ≤ T.heap.size) (hch : CHr Z consts_1 s.vm s.heap T.vm T.heap) {pc : Nat} {Ls : Array Slot} {z w : Int32} {t : FieldType} {rest : List Value} (hret : meth.sig.returnType = some t) (ht : t = .boolean ∨ t = .byte ∨ t = .char ∨ t = .short) (hn' : nar t z = w) (hlk : meth.locks = false)
    (hd : decode c.code pc = .ok (.ireturn, 1)) (hq : Q (some (.int w)) T.heap locs) (hk : cells ≤ K) (hn : slots ≤ N) : own_Go p e below (own_PostH Z s Q K N) (T.setTop (mkF m pc Ls (.int z :: rest))) := by
  subst hn'
  exact own_outH X hS hk0 hch (fun h => by rw [hret] at h; cases h) hlk (fun fs hr => retN X hx hret ht hd hr) hq hk hn
theorem own_retRH (X : Stand p l e R (s.setVm vm0) m args below meth c T locs cells slots) (hx : p.tables.exec = Jvm.exec) (hS : s.Since vm0 k0) (hk0 : k0 ≤ T.heap.size) (hch : CHr Z consts_1 s.vm s.heap T.vm T.heap) {pc : Nat} {Ls : Array Slot} {w : Value} {t : FieldType} {rest : List Value} (hret : meth.sig.returnType = some t) (ht : t.isReference = true) (hw : w.isRef = true) (hlk : meth.locks = false)
    (hd : decode c.code pc = .ok (.areturn, 1)) (hq : Q (some w) T.heap locs) (hk : cells ≤ K) (hn : slots ≤ N) : own_Go p e below (own_PostH Z s Q K N) (T.setTop (mkF m pc Ls (w :: rest))) :=
  own_outH X hS hk0 hch (fun h => by rw [hret] at h; cases h) hlk (fun fs hr => retOut X hx hret (by cases t <;> first | (cases ht; done) | (cases w <;> first | rfl | (cases hw; done))) (Or.inr (Or.inr (Or.inr (Or.inr ⟨rfl, ht, hw⟩)))) hd hr) hq hk hn
end OutH
theorem own_ole {Z : State} {n0 : Nat} {h : Heap} (X : Old Z n0 h) : n0 ≤ h.size := X.1 ▸ X.2.1
theorem own_hk {T : State} {h : Heap} {k0 : Nat} (e : T.heap = h) (q : k0 ≤ h.size) : k0 ≤ T.heap.size := Nat.le_trans q (Nat.le_of_eq (congrArg Array.size e.symm))
theorem own_lat2 {cs : List Int32} (h : ∀ c ∈ cs, ¬ c < 0 ∧ ¬ (255 : Int32) < c) : ∀ c ∈ cs, ¬ (255 : Int32) < c := fun c hc => (h c hc).2
theorem own_nm0 {a : Addr} : a ∉ ([] : List Addr) := List.not_mem_nil
theorem own_nmS {a b : Addr} {L : List Addr} (h : a ≠ b) (r : a ∉ L) : a ∉ b :: L := fun q => (List.mem_cons.mp q).elim h r
theorem own_narR {v : Value} {C : String} (h : v.isRef = true) : narrow (.object C) v = v := by cases v <;> first | rfl | (cases h; done)
theorem own_fitR {v : Value} {C : String} (h : v.isRef = true) : fits (.object C) v = true := by cases v <;> first | rfl | (cases h; done)
theorem own_all0 {P : Int32 → Prop} : ∀ x ∈ ([] : List Int32), P x := fun _ q => nomatch q
theorem own_allS {P : Int32 → Prop} {y : Int32} {L : List Int32} (q : P y) (r : ∀ x ∈ L, P x) : ∀ x ∈ y :: L, P x := fun x z => (List.mem_cons.mp z).elim (fun u => u ▸ q) (r x)
theorem own_i2c_rng (x : Int32) : ¬ x.toUInt32.toUInt16.toUInt32.toInt32 < 0 ∧ ¬ (65535 : Int32) < x.toUInt32.toUInt16.toUInt32.toInt32 := by
  have q := c_i2c x
  have e1 : (65535 : Int32).toInt = 65535 := rfl
  have e0 : (0 : Int32).toInt = 0 := rfl
  simp only [Int32.lt_iff_toInt_lt, e1, e0]
  omega
theorem own_and255 (x : Int32) : ¬ (x &&& (255 : Int32)).toUInt32.toUInt16.toUInt32.toInt32 < 0 ∧ ¬ (255 : Int32) < (x &&& (255 : Int32)).toUInt32.toUInt16.toUInt32.toInt32 := by
  rw [i2c_mask]
  have q := c_and x 255 (by decide)
  have e1 : (255 : Int32).toInt = 255 := rfl
  have e0 : (0 : Int32).toInt = 0 := rfl
  simp only [Int32.lt_iff_toInt_lt, e1, e0] at q ⊢
  omega
theorem own_up {x : Int32} (h : ¬ x < 0 ∧ ¬ (255 : Int32) < x) : ¬ x < 0 ∧ ¬ (65535 : Int32) < x := by
  have e1 : (255 : Int32).toInt = 255 := rfl
  have e2 : (65535 : Int32).toInt = 65535 := rfl
  have e0 : (0 : Int32).toInt = 0 := rfl
  simp only [Int32.lt_iff_toInt_lt, e1, e2, e0] at h ⊢
  omega
theorem own_i2c_id {x : Int32} (h : ¬ x < 0 ∧ ¬ (65535 : Int32) < x) : x.toUInt32.toUInt16.toUInt32.toInt32 = x := by
  have q := c_i2c x
  have e2 : (65535 : Int32).toInt = 65535 := rfl
  have e0 : (0 : Int32).toInt = 0 := rfl
  simp only [Int32.lt_iff_toInt_lt, e2, e0] at h
  apply Int32.toInt_inj.mp
  omega
theorem own_narC {x : Int32} (h : ¬ x < 0 ∧ ¬ (65535 : Int32) < x) : nar .char x = x := own_i2c_id h
theorem own_fitC {x : Int32} (h : ¬ x < 0 ∧ ¬ (65535 : Int32) < x) : fits .char (.int x) = true := by rw [← own_narC h]; exact fits_nar_char x
/-- a String that spells the chars cs; its bytes lie in the array u -/
def own_Str (Z : State) (h : Heap) (a u : Addr) (cs : List Int32) : Prop := Exa Z h a "java/lang/String" ∧ ∃ (cd N : Int32) (k : ClassId) (vs : List Value), Fld Z h a "java/lang/String" "value" "[B" (.ref u) ∧ Fld Z h a "java/lang/String" "coder" "B" (.int cd) ∧ Arv Z h u k .byte N vs (.int 0) ∧ StrChars.Road.CodA cs cd N vs ∧ (∀ c ∈ cs, ¬ c < 0 ∧ ¬ (65535 : Int32) < c) ∧ cs.length ≤ 4000
section Str
variable {Z : State} {h h' : Heap} {a u b : Addr} {cs : List Int32} {ws : List Addr} {sl : Nat} {v : Value}
theorem own_Str.lt (F : own_Str Z h a u cs) : a < h.size := F.1.lt
theorem own_Str.lt2 (F : own_Str Z h a u cs) : u < h.size := by obtain ⟨_, _, _, _, _, _, _, K, _⟩ := F; exact K.lt
theorem own_Str.ext (F : own_Str Z h a u cs) (E : Ext h h') : own_Str Z h' a u cs := by
  obtain ⟨x, cd, N, k, vs, f1, f2, f3, r⟩ := F
  exact ⟨x.ext E, cd, N, k, vs, f1.ext E, f2.ext E, f3.ext E, r⟩
theorem own_Str.keep (F : own_Str Z h a u cs) (K : Keep h h' ws) (q : a ∉ ws) (q' : u ∉ ws) : own_Str Z h' a u cs := by
  obtain ⟨x, cd, N, k, vs, f1, f2, f3, r⟩ := F
  exact ⟨x.keep K, cd, N, k, vs, f1.keep K q, f2.keep K q, f3.keep K q', r⟩
theorem own_Str.wr (F : own_Str Z h a u cs) (W : Wr h h' b sl v) (q : a ≠ b) (q' : u ≠ b) : own_Str Z h' a u cs := by
  obtain ⟨x, cd, N, k, vs, f1, f2, f3, r⟩ := F
  exact ⟨x.wr W, cd, N, k, vs, f1.other W (Or.inl q), f2.other W (Or.inl q), f3.other W q', r⟩
theorem own_mkStr0 {k : ClassId} {N : Int32} (E : Exa Z h a "java/lang/String") (V : Fld Z h a "java/lang/String" "value" "[B" (.ref u)) (C : Fld Z h a "java/lang/String" "coder" "B" (.int 0)) (K : Arv Z h u k .byte N ((cs.map (fun c => c.toInt8.toInt32)).map Value.int) (.int 0)) (hN : N = Int32.ofNat cs.length) (hp : ∀ c ∈ cs, ¬ c < 0 ∧ ¬ (255 : Int32) < c) (l : cs.length ≤ 4000) : own_Str Z h a u cs :=
  ⟨E, 0, N, k, _, V, C, K, by rw [hN]; exact StrChars.Road.codOf rfl (fun c hc => (hp c hc).2), fun c hc => own_up (hp c hc), l⟩
theorem own_mkLit {k : ClassId} {N : Int32} {vs : List Value} (E : Exa Z h a "java/lang/String") (V : Fld Z h a "java/lang/String" "value" "[B" (.ref u)) (C : Fld Z h a "java/lang/String" "coder" "B" (.int 0)) (K : Arv Z h u k .byte N vs (.int 0)) (hN : N = Int32.ofNat cs.length) (hp : ∀ c ∈ cs, ¬ c < 0 ∧ ¬ (255 : Int32) < c) (hv : vs = cs.map (fun c => Value.int (StrChars.lo8 c))) (l : cs.length ≤ 4000) : own_Str Z h a u cs :=
  ⟨E, 0, N, k, vs, V, C, K, Or.inl ⟨rfl, hN, hv, fun c hc => (hp c hc).2⟩, fun c hc => own_up (hp c hc), l⟩
/-- what a String of signs up to 255 holds -/
theorem own_Str.latin (F : own_Str Z h a u cs) (hp : ∀ c ∈ cs, ¬ (255 : Int32) < c) : ∃ (N : Int32) (k : ClassId) (vs : List Value), Exa Z h a "java/lang/String" ∧ Fld Z h a "java/lang/String" "value" "[B" (.ref u) ∧ Fld Z h a "java/lang/String" "coder" "B" (.int 0) ∧ Arv Z h u k .byte N vs (.int 0) ∧ StrChars.Road.CodA cs 0 N vs ∧ (∀ c ∈ cs, ¬ c < 0 ∧ ¬ (65535 : Int32) < c) ∧ cs.length ≤ 4000 := by
  obtain ⟨x, cd, N, k, vs, f1, f2, f3, f4, f5, f6⟩ := F
  have e : cd = 0 := by
    rcases f4 with ⟨q, -⟩ | ⟨-, -, -, c, hc, hw⟩
    · exact q
    · exact absurd hw (hp c hc)
  subst e
  exact ⟨N, k, vs, x, f1, f2, f3, f4, f5, f6⟩
theorem own_Str.latinL (F : own_Str Z h a u cs) (hp : ∀ c ∈ cs, ¬ (255 : Int32) < c) : ∃ (k : ClassId), Exa Z h a "java/lang/String" ∧ Fld Z h a "java/lang/String" "value" "[B" (.ref u) ∧ Fld Z h a "java/lang/String" "coder" "B" (.int 0) ∧ Arv Z h u k .byte (Int32.ofNat cs.length) (cs.map (fun c => Value.int (StrChars.lo8 c))) (.int 0) ∧ (∀ c ∈ cs, ¬ c < 0 ∧ ¬ (65535 : Int32) < c) := by
  obtain ⟨x, cd, N, k, vs, f1, f2, f3, f4, f5, f6⟩ := F
  rcases f4 with ⟨q1, q2, q3, -⟩ | ⟨-, -, -, c, hc, hw⟩
  · subst q1 q2 q3
    exact ⟨k, x, f1, f2, f3, f5⟩
  · exact absurd hw (hp c hc)
/-- what a String with a sign above 255 holds -/
theorem own_Str.wideL (F : own_Str Z h a u cs) (hp : ∃ c ∈ cs, (255 : Int32) < c) : ∃ (k : ClassId), Exa Z h a "java/lang/String" ∧ Fld Z h a "java/lang/String" "value" "[B" (.ref u) ∧ Fld Z h a "java/lang/String" "coder" "B" (.int 1) ∧ Arv Z h u k .byte (Int32.ofNat (2 * cs.length)) (StrChars.Road.wideBytes cs) (.int 0) ∧ (∀ c ∈ cs, ¬ c < 0 ∧ ¬ (65535 : Int32) < c) := by
  obtain ⟨x, cd, N, k, vs, f1, f2, f3, f4, f5, f6⟩ := F
  rcases f4 with ⟨-, -, -, q⟩ | ⟨q1, q2, q3, -⟩
  · obtain ⟨c, hc, hw⟩ := hp
    exact absurd hw (q c hc)
  · subst q1 q2 q3
    exact ⟨k, x, f1, f2, f3, f5⟩
end Str
section Sets
end Sets
section Not
variable {Z : State} {a0 : Array Value}
end Not
end OwnKit

abbrev nm0 : String := "java/lang/String"
abbrev nm1 : String := "com/example/capstrike/capstrike/TermText$Written"
abbrev nm2 : String := "Ljava/lang/String;"
abbrev own_mn0 : MethodName := ⟨"java/lang/Math", "min", "(II)I"⟩
abbrev own_mn1 : MethodName := ⟨"java/util/Arrays", "checkLength", "(II)V"⟩
abbrev own_mn2 : MethodName := ⟨"jdk/internal/util/Preconditions", "checkFromToIndex", "(IIILjava/util/function/BiFunction;)I"⟩
abbrev own_mn3 : MethodName := ⟨"java/lang/String", "checkBoundsBeginEnd", "(III)V"⟩
abbrev own_mn4 : MethodName := ⟨"java/lang/String", "isLatin1", "()Z"⟩
abbrev own_mn5 : MethodName := ⟨"java/lang/String", "<init>", "([BB)V"⟩
abbrev own_mn6 : MethodName := ⟨"java/lang/Math", "max", "(II)I"⟩
abbrev own_mn7 : MethodName := ⟨"java/lang/Record", "<init>", "()V"⟩
abbrev own_mn8 : MethodName := ⟨"com/example/capstrike/capstrike/TermText$Written", "<init>", "(Ljava/lang/String;II)V"⟩
abbrev own_mn9 : MethodName := ⟨"java/lang/StringLatin1", "newString", "([BII)Ljava/lang/String;"⟩
abbrev own_mn10 : MethodName := ⟨"java/lang/String", "substring", "(II)Ljava/lang/String;"⟩
abbrev own_mn11 : MethodName := ⟨"java/lang/String", "length", "()I"⟩
abbrev own_mn12 : MethodName := ⟨"com/example/capstrike/capstrike/TermText$Written", "toString", "()Ljava/lang/String;"⟩
abbrev own_mn13 : MethodName := ⟨"java/util/Arrays", "copyOfRangeByte", "([BII)[B"⟩
abbrev own_mn14 : MethodName := ⟨"java/util/Arrays", "copyOfRange", "([BII)[B"⟩
abbrev own_mn15 : MethodName := ⟨"com/example/capstrike/capstrike/TermTextToStringPinLaw", "same", "(Ljava/lang/String;I[CII)Z"⟩
abbrev own_mn16 : MethodName := ⟨"java/lang/String", "charAt", "(I)C"⟩
abbrev own_mn17 : MethodName := ⟨"java/lang/String", "<init>", "([C)V"⟩
theorem own_i {a0 : Array Value} {Z : State} {d : Jvm.Cond} (hw : ∀ d ∈ tables_1, d.before a0 Z = true) (i : Nat) (h : tables_1[i]? = some d) : d.before a0 Z = true := hw _ (List.mem_of_getElem? h)
def own_St (Z : State) : Prop := (∃ G1 : Int32, Sta Z Z.heap "java/lang/String" "COMPACT_STRINGS" "Z" (.int G1) ∧ ¬ (G1 = (0 : Int32))) ∧ (∃ G3 : Value, Sta Z Z.heap "jdk/internal/util/Preconditions" "SIOOBE_FORMATTER" "Ljava/util/function/BiFunction;" G3 ∧ G3.isRef = true) ∧ True
theorem own_hws {a0 : Array Value} {Z : State} (hw : ∀ d ∈ tables_1, d.before a0 Z = true) : ∀ d ∈ StrChars.Road.words, d.before a0 Z = true := fun d hd => hw d ((by decide +kernel : ∀ d ∈ StrChars.Road.words, d ∈ tables_1) d hd)
theorem own_hln {a0 : Array Value} {Z : State} (hw : ∀ d ∈ tables_1, d.before a0 Z = true) : ∀ d ∈ StrChars.Road.wordsLen, d.before a0 Z = true := fun d hd => hw d ((by decide +kernel : ∀ d ∈ StrChars.Road.wordsLen, d ∈ tables_1) d hd)
theorem own_hch {a0 : Array Value} {Z : State} (hw : ∀ d ∈ tables_1, d.before a0 Z = true) : ∀ d ∈ StrChars.Road.wordsChN, d.before a0 Z = true := fun d hd => hw d ((by decide +kernel : ∀ d ∈ StrChars.Road.wordsChN, d ∈ tables_1) d hd)
theorem own_hsa {a0 : Array Value} {Z : State} (hw : ∀ d ∈ tables_1, d.before a0 Z = true) : ∀ d ∈ Bundle.stringAtoms, d.before a0 Z = true := fun d hd => hw d ((by decide +kernel : ∀ d ∈ Bundle.stringAtoms, d ∈ tables_1) d hd)
theorem own_hEL {a0 : Array Value} {Z : State} (hw : ∀ d ∈ tables_1, d.before a0 Z = true) : EW Z a0 consts_1 := (EW.cons (own_i hw 131 rfl) (by decide) EW.nil)
set_option maxRecDepth 65536
set_option maxHeartbeats 40000000
theorem own_rem5 (x : Int32) : ((x &&& (2147483647 : Int32)) % (5 : Int32)) = 0 ∨ ((x &&& (2147483647 : Int32)) % (5 : Int32)) = 1 ∨ ((x &&& (2147483647 : Int32)) % (5 : Int32)) = 2 ∨ ((x &&& (2147483647 : Int32)) % (5 : Int32)) = 3 ∨ ((x &&& (2147483647 : Int32)) % (5 : Int32)) = 4 := by
  have h := c_irem (x &&& 2147483647) 5 5 rfl
  have h0 := (c_and x 2147483647 (by decide)).1
  have h1 := h.1 h0
  have e0 : (0 : Int32).toInt = 0 := rfl
  have e1 : (1 : Int32).toInt = 1 := rfl
  have e2 : (2 : Int32).toInt = 2 := rfl
  have e3 : (3 : Int32).toInt = 3 := rfl
  have e4 : (4 : Int32).toInt = 4 := rfl
  simp only [← Int32.toInt_inj, e0, e1, e2, e3, e4]
  omega
theorem own_lh0 {a b : Int32} (ha : a = (0 : Int32) ∨ a = (1 : Int32) ∨ a = (2 : Int32) ∨ a = (3 : Int32) ∨ a = (4 : Int32)) (hb : b = (0 : Int32) ∨ b = (1 : Int32) ∨ b = (2 : Int32) ∨ b = (3 : Int32) ∨ b = (4 : Int32)) (h1 : ¬ (b < a)) (h2 : ¬ (a < b)) : (a = (0 : Int32) ∧ a = (0 : Int32)) ∨ (a = (0 : Int32) ∧ a = (1 : Int32)) ∨ (a = (0 : Int32) ∧ a = (2 : Int32)) ∨ (a = (0 : Int32) ∧ a = (3 : Int32)) ∨ (a = (0 : Int32) ∧ a = (4 : Int32)) ∨ (a = (1 : Int32) ∧ a = (1 : Int32)) ∨ (a = (1 : Int32) ∧ a = (2 : Int32)) ∨ (a = (1 : Int32) ∧ a = (3 : Int32)) ∨ (a = (1 : Int32) ∧ a = (4 : Int32)) ∨ (a = (2 : Int32) ∧ a = (2 : Int32)) ∨ (a = (2 : Int32) ∧ a = (3 : Int32)) ∨ (a = (2 : Int32) ∧ a = (4 : Int32)) ∨ (a = (3 : Int32) ∧ a = (3 : Int32)) ∨ (a = (3 : Int32) ∧ a = (4 : Int32)) ∨ (a = (4 : Int32) ∧ a = (4 : Int32)) := by
  rcases ha with rfl | rfl | rfl | rfl | rfl <;> rcases hb with rfl | rfl | rfl | rfl | rfl <;> first | (exact absurd h1 (by decide)) | (exact absurd h2 (by decide)) | (exact absurd (by decide) h1) | (exact absurd (by decide) h2) | decide
theorem own_lh1 {a b : Int32} (ha : a = (0 : Int32) ∨ a = (1 : Int32) ∨ a = (2 : Int32) ∨ a = (3 : Int32) ∨ a = (4 : Int32)) (hb : b = (0 : Int32) ∨ b = (1 : Int32) ∨ b = (2 : Int32) ∨ b = (3 : Int32) ∨ b = (4 : Int32)) (h1 : ¬ (b < a)) (h2 : a < b) : (a = (0 : Int32) ∧ b = (0 : Int32)) ∨ (a = (0 : Int32) ∧ b = (1 : Int32)) ∨ (a = (0 : Int32) ∧ b = (2 : Int32)) ∨ (a = (0 : Int32) ∧ b = (3 : Int32)) ∨ (a = (0 : Int32) ∧ b = (4 : Int32)) ∨ (a = (1 : Int32) ∧ b = (1 : Int32)) ∨ (a = (1 : Int32) ∧ b = (2 : Int32)) ∨ (a = (1 : Int32) ∧ b = (3 : Int32)) ∨ (a = (1 : Int32) ∧ b = (4 : Int32)) ∨ (a = (2 : Int32) ∧ b = (2 : Int32)) ∨ (a = (2 : Int32) ∧ b = (3 : Int32)) ∨ (a = (2 : Int32) ∧ b = (4 : Int32)) ∨ (a = (3 : Int32) ∧ b = (3 : Int32)) ∨ (a = (3 : Int32) ∧ b = (4 : Int32)) ∨ (a = (4 : Int32) ∧ b = (4 : Int32)) := by
  rcases ha with rfl | rfl | rfl | rfl | rfl <;> rcases hb with rfl | rfl | rfl | rfl | rfl <;> first | (exact absurd h1 (by decide)) | (exact absurd h2 (by decide)) | (exact absurd (by decide) h1) | (exact absurd (by decide) h2) | decide
theorem own_lh2 {a b : Int32} (ha : a = (0 : Int32) ∨ a = (1 : Int32) ∨ a = (2 : Int32) ∨ a = (3 : Int32) ∨ a = (4 : Int32)) (hb : b = (0 : Int32) ∨ b = (1 : Int32) ∨ b = (2 : Int32) ∨ b = (3 : Int32) ∨ b = (4 : Int32)) (h1 : b < a) (h2 : ¬ (a < b)) : (b = (0 : Int32) ∧ a = (0 : Int32)) ∨ (b = (0 : Int32) ∧ a = (1 : Int32)) ∨ (b = (0 : Int32) ∧ a = (2 : Int32)) ∨ (b = (0 : Int32) ∧ a = (3 : Int32)) ∨ (b = (0 : Int32) ∧ a = (4 : Int32)) ∨ (b = (1 : Int32) ∧ a = (1 : Int32)) ∨ (b = (1 : Int32) ∧ a = (2 : Int32)) ∨ (b = (1 : Int32) ∧ a = (3 : Int32)) ∨ (b = (1 : Int32) ∧ a = (4 : Int32)) ∨ (b = (2 : Int32) ∧ a = (2 : Int32)) ∨ (b = (2 : Int32) ∧ a = (3 : Int32)) ∨ (b = (2 : Int32) ∧ a = (4 : Int32)) ∨ (b = (3 : Int32) ∧ a = (3 : Int32)) ∨ (b = (3 : Int32) ∧ a = (4 : Int32)) ∨ (b = (4 : Int32) ∧ a = (4 : Int32)) := by
  rcases ha with rfl | rfl | rfl | rfl | rfl <;> rcases hb with rfl | rfl | rfl | rfl | rfl <;> first | (exact absurd h1 (by decide)) | (exact absurd h2 (by decide)) | (exact absurd (by decide) h1) | (exact absurd (by decide) h2) | decide
theorem own_lh3 {a b : Int32} (ha : a = (0 : Int32) ∨ a = (1 : Int32) ∨ a = (2 : Int32) ∨ a = (3 : Int32) ∨ a = (4 : Int32)) (hb : b = (0 : Int32) ∨ b = (1 : Int32) ∨ b = (2 : Int32) ∨ b = (3 : Int32) ∨ b = (4 : Int32)) (h1 : b < a) (h2 : a < b) : False := by
  rcases ha with rfl | rfl | rfl | rfl | rfl <;> rcases hb with rfl | rfl | rfl | rfl | rfl <;> first | (exact absurd h1 (by decide)) | (exact absurd h2 (by decide)) | (exact absurd (by decide) h1) | (exact absurd (by decide) h2) | decide

theorem d0_0 : decode jdk_29_method_69_code 0 = .ok (.iload_n 0, 1) := by decide +kernel
theorem d0_1 : decode jdk_29_method_69_code 1 = .ok (.iload_n 1, 1) := by decide +kernel
theorem d0_2 : decode jdk_29_method_69_code 2 = .ok (.if_icmp .gt 7, 3) := by decide +kernel
theorem d0_9 : decode jdk_29_method_69_code 9 = .ok (.iload_n 1, 1) := by decide +kernel
theorem d0_10 : decode jdk_29_method_69_code 10 = .ok (.ireturn, 1) := by decide +kernel
theorem d0_5 : decode jdk_29_method_69_code 5 = .ok (.iload_n 0, 1) := by decide +kernel
theorem d0_6 : decode jdk_29_method_69_code 6 = .ok (.goto 4, 3) := by decide +kernel
theorem own_pn0 : plainName "java/util/Arrays" = true := by first | (simp [plainName, overriddenIn]; done) | decide +kernel
theorem d1_0 : decode jdk_65_method_131_code 0 = .ok (.iload_n 1, 1) := by decide +kernel
theorem d1_1 : decode jdk_65_method_131_code 1 = .ok (.iload_n 0, 1) := by decide +kernel
theorem d1_2 : decode jdk_65_method_131_code 2 = .ok (.if_icmp .ge 35, 3) := by decide +kernel
theorem d1_37 : decode jdk_65_method_131_code 37 = .ok (.return_, 1) := by decide +kernel
theorem own_pn1 : plainName "jdk/internal/util/Preconditions" = true := by first | (simp [plainName, overriddenIn]; done) | decide +kernel
theorem d2_0 : decode jdk_41_method_12_code 0 = .ok (.iload_n 0, 1) := by decide +kernel
theorem d2_1 : decode jdk_41_method_12_code 1 = .ok (.ifCond .lt 13, 3) := by decide +kernel
theorem d2_4 : decode jdk_41_method_12_code 4 = .ok (.iload_n 0, 1) := by decide +kernel
theorem d2_5 : decode jdk_41_method_12_code 5 = .ok (.iload_n 1, 1) := by decide +kernel
theorem d2_6 : decode jdk_41_method_12_code 6 = .ok (.if_icmp .gt 8, 3) := by decide +kernel
theorem d2_9 : decode jdk_41_method_12_code 9 = .ok (.iload_n 1, 1) := by decide +kernel
theorem d2_10 : decode jdk_41_method_12_code 10 = .ok (.iload_n 2, 1) := by decide +kernel
theorem d2_11 : decode jdk_41_method_12_code 11 = .ok (.if_icmp .le 11, 3) := by decide +kernel
theorem d2_22 : decode jdk_41_method_12_code 22 = .ok (.iload_n 0, 1) := by decide +kernel
theorem d2_23 : decode jdk_41_method_12_code 23 = .ok (.ireturn, 1) := by decide +kernel
theorem own_pn2 : plainName "java/lang/String" = true := by first | (simp [plainName, overriddenIn]; done) | decide +kernel
theorem d3_0 : decode jdk_42_method_158_code 0 = .ok (.iload_n 0, 1) := by decide +kernel
theorem d3_1 : decode jdk_42_method_158_code 1 = .ok (.iload_n 1, 1) := by decide +kernel
theorem d3_2 : decode jdk_42_method_158_code 2 = .ok (.iload_n 2, 1) := by decide +kernel
theorem d3_3 : decode jdk_42_method_158_code 3 = .ok (.getstatic 1053, 3) := by decide +kernel
theorem own_pd0 : parseMethodDescriptor "(IIILjava/util/function/BiFunction;)I" = some ⟨[.int, .int, .int, (.object "java/util/function/BiFunction")], some .int⟩ := by decide +kernel
theorem d3_6 : decode jdk_42_method_158_code 6 = .ok (.invokestatic 1062, 3) := by decide +kernel
theorem d3_9 : decode jdk_42_method_158_code 9 = .ok (.pop, 1) := by decide +kernel
theorem d3_10 : decode jdk_42_method_158_code 10 = .ok (.return_, 1) := by decide +kernel
theorem d4_0 : decode jdk_42_method_154_code 0 = .ok (.getstatic 38, 3) := by decide +kernel
theorem d4_3 : decode jdk_42_method_154_code 3 = .ok (.ifCond .eq 14, 3) := by decide +kernel
theorem d4_6 : decode jdk_42_method_154_code 6 = .ok (.aload_n 0, 1) := by decide +kernel
theorem d4_7 : decode jdk_42_method_154_code 7 = .ok (.getfield 15, 3) := by decide +kernel
theorem d4_10 : decode jdk_42_method_154_code 10 = .ok (.ifCond .ne 7, 3) := by decide +kernel
theorem d4_13 : decode jdk_42_method_154_code 13 = .ok (.iconst 1, 1) := by decide +kernel
theorem d4_14 : decode jdk_42_method_154_code 14 = .ok (.goto 4, 3) := by decide +kernel
theorem d4_18 : decode jdk_42_method_154_code 18 = .ok (.ireturn, 1) := by decide +kernel
theorem d5_0 : decode jdk_42_method_151_code 0 = .ok (.aload_n 0, 1) := by decide +kernel
theorem d5_1 : decode jdk_42_method_151_code 1 = .ok (.invokespecial 1, 3) := by decide +kernel
theorem d5_4 : decode jdk_42_method_151_code 4 = .ok (.aload_n 0, 1) := by decide +kernel
theorem d5_5 : decode jdk_42_method_151_code 5 = .ok (.aload_n 1, 1) := by decide +kernel
theorem d5_6 : decode jdk_42_method_151_code 6 = .ok (.putfield 9, 3) := by decide +kernel
theorem d5_9 : decode jdk_42_method_151_code 9 = .ok (.aload_n 0, 1) := by decide +kernel
theorem d5_10 : decode jdk_42_method_151_code 10 = .ok (.iload_n 2, 1) := by decide +kernel
theorem d5_11 : decode jdk_42_method_151_code 11 = .ok (.putfield 15, 3) := by decide +kernel
theorem d5_14 : decode jdk_42_method_151_code 14 = .ok (.return_, 1) := by decide +kernel
theorem d6_0 : decode jdk_29_method_65_code 0 = .ok (.iload_n 0, 1) := by decide +kernel
theorem d6_1 : decode jdk_29_method_65_code 1 = .ok (.iload_n 1, 1) := by decide +kernel
theorem d6_2 : decode jdk_29_method_65_code 2 = .ok (.if_icmp .lt 7, 3) := by decide +kernel
theorem d6_9 : decode jdk_29_method_65_code 9 = .ok (.iload_n 1, 1) := by decide +kernel
theorem d6_10 : decode jdk_29_method_65_code 10 = .ok (.ireturn, 1) := by decide +kernel
theorem d6_5 : decode jdk_29_method_65_code 5 = .ok (.iload_n 0, 1) := by decide +kernel
theorem d6_6 : decode jdk_29_method_65_code 6 = .ok (.goto 4, 3) := by decide +kernel
theorem own_pn3 : plainName "java/lang/Record" = true := by first | (simp [plainName, overriddenIn]; done) | decide +kernel
theorem d7_0 : decode jdk_30_method_1_code 0 = .ok (.aload_n 0, 1) := by decide +kernel
theorem d7_1 : decode jdk_30_method_1_code 1 = .ok (.invokespecial 1, 3) := by decide +kernel
theorem d7_4 : decode jdk_30_method_1_code 4 = .ok (.return_, 1) := by decide +kernel
theorem own_pn4 : plainName "com/example/capstrike/capstrike/TermText$Written" = true := by first | (simp [plainName, overriddenIn]; done) | decide +kernel
theorem d8_0 : decode prog_77_method_1_code 0 = .ok (.aload_n 0, 1) := by decide +kernel
theorem own_pd1 : parseMethodDescriptor "()V" = some ⟨[], none⟩ := by decide +kernel
theorem d8_1 : decode prog_77_method_1_code 1 = .ok (.invokespecial 1, 3) := by decide +kernel
theorem d8_4 : decode prog_77_method_1_code 4 = .ok (.aload_n 0, 1) := by decide +kernel
theorem d8_5 : decode prog_77_method_1_code 5 = .ok (.aload_n 1, 1) := by decide +kernel
theorem d8_6 : decode prog_77_method_1_code 6 = .ok (.putfield 7, 3) := by decide +kernel
theorem d8_9 : decode prog_77_method_1_code 9 = .ok (.aload_n 0, 1) := by decide +kernel
theorem d8_10 : decode prog_77_method_1_code 10 = .ok (.iload_n 2, 1) := by decide +kernel
theorem d8_11 : decode prog_77_method_1_code 11 = .ok (.putfield 13, 3) := by decide +kernel
theorem d8_14 : decode prog_77_method_1_code 14 = .ok (.aload_n 0, 1) := by decide +kernel
theorem d8_15 : decode prog_77_method_1_code 15 = .ok (.iload_n 3, 1) := by decide +kernel
theorem d8_16 : decode prog_77_method_1_code 16 = .ok (.putfield 17, 3) := by decide +kernel
theorem d8_19 : decode prog_77_method_1_code 19 = .ok (.return_, 1) := by decide +kernel
theorem own_pn5 : plainName "java/lang/StringLatin1" = true := by first | (simp [plainName, overriddenIn]; done) | decide +kernel
theorem d9_0 : decode jdk_43_method_47_code 0 = .ok (.iload_n 2, 1) := by decide +kernel
theorem d9_1 : decode jdk_43_method_47_code 1 = .ok (.ifCond .ne 6, 3) := by decide +kernel
theorem d9_4 : decode jdk_43_method_47_code 4 = .ok (.ldc 151, 2) := by decide +kernel
theorem own_mem131 : (("java/lang/StringLatin1", 151) : String × Nat) ∈ consts_1 := by decide
theorem d9_6 : decode jdk_43_method_47_code 6 = .ok (.areturn, 1) := by decide +kernel
theorem d10_0 : decode jdk_42_method_92_code 0 = .ok (.aload_n 0, 1) := by decide +kernel
theorem own_pd2 : parseMethodDescriptor "()I" = some ⟨[], some .int⟩ := by decide +kernel
theorem d10_1 : decode jdk_42_method_92_code 1 = .ok (.invokevirtual 505, 3) := by decide +kernel
theorem d10_4 : decode jdk_42_method_92_code 4 = .ok (.istore_n 3, 1) := by decide +kernel
theorem d10_5 : decode jdk_42_method_92_code 5 = .ok (.iload_n 1, 1) := by decide +kernel
theorem d10_6 : decode jdk_42_method_92_code 6 = .ok (.iload_n 2, 1) := by decide +kernel
theorem d10_7 : decode jdk_42_method_92_code 7 = .ok (.iload_n 3, 1) := by decide +kernel
theorem own_pd3 : parseMethodDescriptor "(III)V" = some ⟨[.int, .int, .int], none⟩ := by decide +kernel
theorem d10_8 : decode jdk_42_method_92_code 8 = .ok (.invokestatic 521, 3) := by decide +kernel
theorem d10_11 : decode jdk_42_method_92_code 11 = .ok (.iload_n 1, 1) := by decide +kernel
theorem d10_12 : decode jdk_42_method_92_code 12 = .ok (.ifCond .ne 10, 3) := by decide +kernel
theorem d10_15 : decode jdk_42_method_92_code 15 = .ok (.iload_n 2, 1) := by decide +kernel
theorem d10_16 : decode jdk_42_method_92_code 16 = .ok (.iload_n 3, 1) := by decide +kernel
theorem d10_17 : decode jdk_42_method_92_code 17 = .ok (.if_icmp .ne 5, 3) := by decide +kernel
theorem d10_22 : decode jdk_42_method_92_code 22 = .ok (.iload_n 2, 1) := by decide +kernel
theorem d10_23 : decode jdk_42_method_92_code 23 = .ok (.iload_n 1, 1) := by decide +kernel
theorem d10_24 : decode jdk_42_method_92_code 24 = .ok (.isub, 1) := by decide +kernel
theorem d10_25 : decode jdk_42_method_92_code 25 = .ok (.istore 4, 2) := by decide +kernel
theorem d10_27 : decode jdk_42_method_92_code 27 = .ok (.aload_n 0, 1) := by decide +kernel
theorem own_pd4 : parseMethodDescriptor "()Z" = some ⟨[], some .boolean⟩ := by decide +kernel
theorem d10_28 : decode jdk_42_method_92_code 28 = .ok (.invokevirtual 492, 3) := by decide +kernel
theorem d10_31 : decode jdk_42_method_92_code 31 = .ok (.ifCond .eq 16, 3) := by decide +kernel
theorem d10_34 : decode jdk_42_method_92_code 34 = .ok (.aload_n 0, 1) := by decide +kernel
theorem d10_35 : decode jdk_42_method_92_code 35 = .ok (.getfield 9, 3) := by decide +kernel
theorem d10_38 : decode jdk_42_method_92_code 38 = .ok (.iload_n 1, 1) := by decide +kernel
theorem d10_39 : decode jdk_42_method_92_code 39 = .ok (.iload 4, 2) := by decide +kernel
theorem own_pd5 : parseMethodDescriptor "([BII)Ljava/lang/String;" = some ⟨[(.array .byte), .int, .int], some (.object "java/lang/String")⟩ := by decide +kernel
theorem d10_41 : decode jdk_42_method_92_code 41 = .ok (.invokestatic 685, 3) := by decide +kernel
theorem d10_44 : decode jdk_42_method_92_code 44 = .ok (.goto 13, 3) := by decide +kernel
theorem d10_57 : decode jdk_42_method_92_code 57 = .ok (.areturn, 1) := by decide +kernel
theorem d11_0 : decode prog_77_method_5_code 0 = .ok (.aload_n 0, 1) := by decide +kernel
theorem d11_1 : decode prog_77_method_5_code 1 = .ok (.getfield 7, 3) := by decide +kernel
theorem d11_4 : decode prog_77_method_5_code 4 = .ok (.aload_n 0, 1) := by decide +kernel
theorem d11_5 : decode prog_77_method_5_code 5 = .ok (.getfield 13, 3) := by decide +kernel
theorem d11_8 : decode prog_77_method_5_code 8 = .ok (.aload_n 0, 1) := by decide +kernel
theorem d11_9 : decode prog_77_method_5_code 9 = .ok (.getfield 17, 3) := by decide +kernel
theorem own_pd6 : parseMethodDescriptor "(II)Ljava/lang/String;" = some ⟨[.int, .int], some (.object "java/lang/String")⟩ := by decide +kernel
theorem d11_12 : decode prog_77_method_5_code 12 = .ok (.invokevirtual 43, 3) := by decide +kernel
theorem d11_15 : decode prog_77_method_5_code 15 = .ok (.areturn, 1) := by decide +kernel
theorem d12_0 : decode jdk_65_method_133_code 0 = .ok (.iload_n 1, 1) := by decide +kernel
theorem d12_1 : decode jdk_65_method_133_code 1 = .ok (.iload_n 2, 1) := by decide +kernel
theorem own_pd7 : parseMethodDescriptor "(II)V" = some ⟨[.int, .int], none⟩ := by decide +kernel
theorem d12_2 : decode jdk_65_method_133_code 2 = .ok (.invokestatic 343, 3) := by decide +kernel
theorem d12_5 : decode jdk_65_method_133_code 5 = .ok (.iload_n 2, 1) := by decide +kernel
theorem d12_6 : decode jdk_65_method_133_code 6 = .ok (.iload_n 1, 1) := by decide +kernel
theorem d12_7 : decode jdk_65_method_133_code 7 = .ok (.isub, 1) := by decide +kernel
theorem d12_8 : decode jdk_65_method_133_code 8 = .ok (.istore_n 3, 1) := by decide +kernel
theorem d12_9 : decode jdk_65_method_133_code 9 = .ok (.iload_n 3, 1) := by decide +kernel
theorem d12_10 : decode jdk_65_method_133_code 10 = .ok (.newarray .byte, 2) := by decide +kernel
theorem d12_12 : decode jdk_65_method_133_code 12 = .ok (.astore 4, 2) := by decide +kernel
theorem d12_14 : decode jdk_65_method_133_code 14 = .ok (.aload_n 0, 1) := by decide +kernel
theorem d12_15 : decode jdk_65_method_133_code 15 = .ok (.iload_n 1, 1) := by decide +kernel
theorem d12_16 : decode jdk_65_method_133_code 16 = .ok (.aload 4, 2) := by decide +kernel
theorem d12_18 : decode jdk_65_method_133_code 18 = .ok (.iconst 0, 1) := by decide +kernel
theorem d12_19 : decode jdk_65_method_133_code 19 = .ok (.aload_n 0, 1) := by decide +kernel
theorem d12_20 : decode jdk_65_method_133_code 20 = .ok (.arraylength, 1) := by decide +kernel
theorem d12_21 : decode jdk_65_method_133_code 21 = .ok (.iload_n 1, 1) := by decide +kernel
theorem d12_22 : decode jdk_65_method_133_code 22 = .ok (.isub, 1) := by decide +kernel
theorem d12_23 : decode jdk_65_method_133_code 23 = .ok (.iload_n 3, 1) := by decide +kernel
theorem own_pd8 : parseMethodDescriptor "(II)I" = some ⟨[.int, .int], some .int⟩ := by decide +kernel
theorem d12_24 : decode jdk_65_method_133_code 24 = .ok (.invokestatic 304, 3) := by decide +kernel
theorem d12_27 : decode jdk_65_method_133_code 27 = .ok (.invokestatic 150, 3) := by decide +kernel
theorem d12_30 : decode jdk_65_method_133_code 30 = .ok (.aload 4, 2) := by decide +kernel
theorem d12_32 : decode jdk_65_method_133_code 32 = .ok (.areturn, 1) := by decide +kernel
theorem d13_0 : decode jdk_65_method_132_code 0 = .ok (.iload_n 1, 1) := by decide +kernel
theorem d13_1 : decode jdk_65_method_132_code 1 = .ok (.ifCond .ne 9, 3) := by decide +kernel
theorem d13_4 : decode jdk_65_method_132_code 4 = .ok (.iload_n 2, 1) := by decide +kernel
theorem d13_5 : decode jdk_65_method_132_code 5 = .ok (.aload_n 0, 1) := by decide +kernel
theorem d13_6 : decode jdk_65_method_132_code 6 = .ok (.arraylength, 1) := by decide +kernel
theorem d13_7 : decode jdk_65_method_132_code 7 = .ok (.if_icmp .eq 10, 3) := by decide +kernel
theorem d13_10 : decode jdk_65_method_132_code 10 = .ok (.aload_n 0, 1) := by decide +kernel
theorem d13_11 : decode jdk_65_method_132_code 11 = .ok (.iload_n 1, 1) := by decide +kernel
theorem d13_12 : decode jdk_65_method_132_code 12 = .ok (.iload_n 2, 1) := by decide +kernel
theorem own_pd9 : parseMethodDescriptor "([BII)[B" = some ⟨[(.array .byte), .int, .int], some (.array .byte)⟩ := by decide +kernel
theorem d13_13 : decode jdk_65_method_132_code 13 = .ok (.invokestatic 339, 3) := by decide +kernel
theorem d13_16 : decode jdk_65_method_132_code 16 = .ok (.areturn, 1) := by decide +kernel
theorem d9_7 : decode jdk_43_method_47_code 7 = .ok (.new 1, 3) := by decide +kernel
theorem d9_10 : decode jdk_43_method_47_code 10 = .ok (.dup, 1) := by decide +kernel
theorem d9_11 : decode jdk_43_method_47_code 11 = .ok (.aload_n 0, 1) := by decide +kernel
theorem d9_12 : decode jdk_43_method_47_code 12 = .ok (.iload_n 1, 1) := by decide +kernel
theorem d9_13 : decode jdk_43_method_47_code 13 = .ok (.iload_n 1, 1) := by decide +kernel
theorem d9_14 : decode jdk_43_method_47_code 14 = .ok (.iload_n 2, 1) := by decide +kernel
theorem d9_15 : decode jdk_43_method_47_code 15 = .ok (.iadd, 1) := by decide +kernel
theorem d9_16 : decode jdk_43_method_47_code 16 = .ok (.invokestatic 232, 3) := by decide +kernel
theorem d9_19 : decode jdk_43_method_47_code 19 = .ok (.iconst 0, 1) := by decide +kernel
theorem own_pd10 : parseMethodDescriptor "([BB)V" = some ⟨[(.array .byte), .byte], none⟩ := by decide +kernel
theorem d9_20 : decode jdk_43_method_47_code 20 = .ok (.invokespecial 112, 3) := by decide +kernel
theorem d9_23 : decode jdk_43_method_47_code 23 = .ok (.areturn, 1) := by decide +kernel
theorem own_pn6 : plainName "com/example/capstrike/capstrike/TermTextToStringPinLaw" = true := by first | (simp [plainName, overriddenIn]; done) | decide +kernel
theorem d14_0 : decode method_2_code 0 = .ok (.iload_n 1, 1) := by decide +kernel
theorem d14_1 : decode method_2_code 1 = .ok (.iload 4, 2) := by decide +kernel
theorem d14_3 : decode method_2_code 3 = .ok (.if_icmp .lt 5, 3) := by decide +kernel
theorem d14_8 : decode method_2_code 8 = .ok (.aload_n 0, 1) := by decide +kernel
theorem d14_9 : decode method_2_code 9 = .ok (.iload_n 1, 1) := by decide +kernel
theorem own_pd11 : parseMethodDescriptor "(I)C" = some ⟨[.int], some .char⟩ := by decide +kernel
theorem d14_10 : decode method_2_code 10 = .ok (.invokevirtual 7, 3) := by decide +kernel
theorem d14_13 : decode method_2_code 13 = .ok (.aload_n 2, 1) := by decide +kernel
theorem d14_14 : decode method_2_code 14 = .ok (.iload_n 3, 1) := by decide +kernel
theorem d14_15 : decode method_2_code 15 = .ok (.iload_n 1, 1) := by decide +kernel
theorem d14_16 : decode method_2_code 16 = .ok (.iadd, 1) := by decide +kernel
theorem d14_17 : decode method_2_code 17 = .ok (.caload, 1) := by decide +kernel
theorem d14_18 : decode method_2_code 18 = .ok (.if_icmp .ne 7, 3) := by decide +kernel
theorem d14_21 : decode method_2_code 21 = .ok (.iconst 1, 1) := by decide +kernel
theorem d14_22 : decode method_2_code 22 = .ok (.goto 4, 3) := by decide +kernel
theorem d14_26 : decode method_2_code 26 = .ok (.ireturn, 1) := by decide +kernel
theorem d10_20 : decode jdk_42_method_92_code 20 = .ok (.aload_n 0, 1) := by decide +kernel
theorem d10_21 : decode jdk_42_method_92_code 21 = .ok (.areturn, 1) := by decide +kernel
theorem d14_6 : decode method_2_code 6 = .ok (.iconst 1, 1) := by decide +kernel
theorem d14_7 : decode method_2_code 7 = .ok (.ireturn, 1) := by decide +kernel
theorem own_pd12 : parseMethodDescriptor "()Ljava/lang/String;" = some ⟨[], some (.object "java/lang/String")⟩ := by decide +kernel
theorem own_pd13 : parseMethodDescriptor "(Ljava/lang/String;I[CII)Z" = some ⟨[(.object "java/lang/String"), .int, (.array .char), .int, .int], some .boolean⟩ := by decide +kernel
theorem own_pd14 : parseMethodDescriptor "(Ljava/lang/String;II)V" = some ⟨[(.object "java/lang/String"), .int, .int], none⟩ := by decide +kernel
theorem own_pd15 : parseMethodDescriptor "([C)V" = some ⟨[(.array .char)], none⟩ := by decide +kernel
def own_Qmamin (Z : State) (va vb : Int32) (h0 : Heap) (n0 : Nat) (v : Option Value) (h : Heap) (L : List Loc) : Prop := (v = some (.int va) ∧ Fr n0 L ∧ Keep h0 h [] ∧ (¬ (vb < va))) ∨ (v = some (.int vb) ∧ Fr n0 L ∧ Keep h0 h [] ∧ (vb < va))
theorem own_ef_mamin (m : MethodId) (va : Int32) (vb : Int32)  : entryFrame m #[(.int va), (.int vb)] 2 = mkF m 0 #[sI va, sI vb] [] := by first | (simp [entryFrame, mkF, argsToLocals, Value.category]; done) | rfl
theorem own_rmmamin (l : Launch) (Z : State) (a0 : Array Value) (hw : ∀ d ∈ tables_1, d.before a0 Z = true) (hst : own_St Z) (ws : List Jvm.Cond) (va vb : Int32) (h0 : Heap) (n0 : Nat) (X00 : Old Z n0 h0)  :
    own_MF l own_mn0 jdk_29_method_69_code 2 (Option.some Jvm.ClassFile.FieldType.int) ws (own_R 0 0 0 0) #[(.int va), (.int vb)] Z h0 (own_Qmamin Z va vb h0 n0) := by
  refine own_body (Jvm.Free.JP.mathPlain rfl (by decide +kernel)) (fun m => own_ef_mamin m va vb ) ?_
  intro p e s m below meth c s₁ hx hby hret hlk hml hZ hown hnm hh X0 e0
  have N0 := Fr.nil n0
  have KK0 : Keep h0 h0 [] := Keep.refl h0 _
  obtain ⟨⟨G1, O2, P5⟩, ⟨G3, O4, rG3⟩, -⟩ := id hst
  refine own_to (V := s₁.setTop (mkF m 2 #[sI va, sI vb] [(.int vb), (.int va)])) ?_ fun t k => (by
    refine XS.iloadN X0.here hx rfl (hb hby d0_0) rfl ?_
    refine XS.iloadN X0.here hx rfl (hb hby d0_1) rfl ?_
    exact k)
  by_cases hc2_101 : vb < va
  ·skip
   refine own_to (V := s₁.setTop (mkF m 10 #[sI va, sI vb] [(.int vb)])) ?_ fun t k => (by
     refine XS.icmpYes X0.here hx rfl (pc0 := 2) (pc' := 9) rfl (hb hby d0_2) rfl (tlt (hc2_101 : vb < va)).2.2.1 (by decide) (by decide) ?_
     refine XS.iloadN X0.here hx rfl (hb hby d0_9) rfl ?_
     exact k)
   exact own_retI X0 hx hret hlk (hb hby d0_10) (by rw [e0]; exact (Or.inr (⟨rfl, N0, KK0, hc2_101⟩))) (by decide) (by decide)
  ·skip
   refine own_to (V := s₁.setTop (mkF m 10 #[sI va, sI vb] [(.int va)])) ?_ fun t k => (by
     refine XS.icmpNo X0.here hx rfl (hb hby d0_2) rfl (flt (hc2_101 : ¬ (vb < va))).2.2.1 ?_
     refine XS.iloadN X0.here hx rfl (hb hby d0_5) rfl ?_
     refine XS.goto X0.here hx rfl (pc0 := 6) (pc' := 10) rfl (hb hby d0_6) (by decide) (by decide) ?_
     exact k)
   exact own_retI X0 hx hret hlk (hb hby d0_10) (by rw [e0]; exact (Or.inl ⟨rfl, N0, KK0, hc2_101⟩)) (by decide) (by decide)
def own_Qckl (Z : State) (vf vt : Int32) (h0 : Heap) (n0 : Nat) (v : Option Value) (h : Heap) (L : List Loc) : Prop := (v = none ∧ Fr n0 L ∧ Keep h0 h [])
theorem own_ef_ckl (m : MethodId) (vf : Int32) (vt : Int32)  : entryFrame m #[(.int vf), (.int vt)] 2 = mkF m 0 #[sI vf, sI vt] [] := by first | (simp [entryFrame, mkF, argsToLocals, Value.category]; done) | rfl
theorem own_rmckl (l : Launch) (Z : State) (a0 : Array Value) (hw : ∀ d ∈ tables_1, d.before a0 Z = true) (hst : own_St Z) (ws : List Jvm.Cond) (vf vt : Int32) (h0 : Heap) (n0 : Nat) (X00 : Old Z n0 h0) (hq : ¬ (vt < vf)) :
    own_MF l own_mn1 jdk_65_method_131_code 2 (Option.none : Option Jvm.ClassFile.FieldType) ws (own_R 0 0 0 0) #[(.int vf), (.int vt)] Z h0 (own_Qckl Z vf vt h0 n0) := by
  refine own_body (plainFor_of_name own_pn0) (fun m => own_ef_ckl m vf vt ) ?_
  intro p e s m below meth c s₁ hx hby hret hlk hml hZ hown hnm hh X0 e0
  have N0 := Fr.nil n0
  have KK0 : Keep h0 h0 [] := Keep.refl h0 _
  obtain ⟨⟨G1, O2, P5⟩, ⟨G3, O4, rG3⟩, -⟩ := id hst
  refine own_to (V := s₁.setTop (mkF m 37 #[sI vf, sI vt] [])) ?_ fun t k => (by
    refine XS.iloadN X0.here hx rfl (hb hby d1_0) rfl ?_
    refine XS.iloadN X0.here hx rfl (hb hby d1_1) rfl ?_
    refine XS.icmpYes X0.here hx rfl (pc0 := 2) (pc' := 37) rfl (hb hby d1_2) rfl (flt (hq : ¬ (vt < vf))).2.1 (by decide) (by decide) ?_
    exact k)
  exact own_retV X0 hx hret hlk (hb hby d1_37) (by rw [e0]; exact (⟨rfl, N0, KK0⟩)) (by decide) (by decide)
def own_Qcfti (Z : State) (vi vj vn : Int32) (vx : Value) (h0 : Heap) (n0 : Nat) (v : Option Value) (h : Heap) (L : List Loc) : Prop := (v = some (.int vi) ∧ Fr n0 L ∧ Keep h0 h [])
theorem own_ef_cfti (m : MethodId) (vi : Int32) (vj : Int32) (vn : Int32) (vx : Value) (r0 : vx.isRef = true) : entryFrame m #[(.int vi), (.int vj), (.int vn), vx] 4 = mkF m 0 #[sI vi, sI vj, sI vn, .val vx] [] := by first | (rcases ref_cases r0 with rfl | ⟨_, rfl⟩; all_goals first | (simp [entryFrame, mkF, argsToLocals, Value.category]; done) | rfl)
theorem own_rmcfti (l : Launch) (Z : State) (a0 : Array Value) (hw : ∀ d ∈ tables_1, d.before a0 Z = true) (hst : own_St Z) (ws : List Jvm.Cond) (vi vj vn : Int32) (vx : Value) (h0 : Heap) (n0 : Nat) (X00 : Old Z n0 h0) (rx : vx.isRef = true) (h1 : ¬ (vi < (0 : Int32))) (h2 : ¬ (vj < vi)) (h3 : ¬ (vn < vj)) :
    own_MF l own_mn2 jdk_41_method_12_code 4 (Option.some Jvm.ClassFile.FieldType.int) ws (own_R 0 0 0 0) #[(.int vi), (.int vj), (.int vn), vx] Z h0 (own_Qcfti Z vi vj vn vx h0 n0) := by
  refine own_body (plainFor_of_name own_pn1) (fun m => own_ef_cfti m vi vj vn vx rx) ?_
  intro p e s m below meth c s₁ hx hby hret hlk hml hZ hown hnm hh X0 e0
  have N0 := Fr.nil n0
  have KK0 : Keep h0 h0 [] := Keep.refl h0 _
  obtain ⟨⟨G1, O2, P5⟩, ⟨G3, O4, rG3⟩, -⟩ := id hst
  refine own_to (V := s₁.setTop (mkF m 23 #[sI vi, sI vj, sI vn, .val vx] [(.int vi)])) ?_ fun t k => (by
    refine XS.iloadN X0.here hx rfl (hb hby d2_0) rfl ?_
    refine XS.ifNo X0.here hx rfl (hb hby d2_1) rfl ((if0 _ _).trans (flt (h1 : ¬ (vi < (0 : Int32)))).1) ?_
    refine XS.iloadN X0.here hx rfl (hb hby d2_4) rfl ?_
    refine XS.iloadN X0.here hx rfl (hb hby d2_5) rfl ?_
    refine XS.icmpNo X0.here hx rfl (hb hby d2_6) rfl (flt (h2 : ¬ (vj < vi))).2.2.1 ?_
    refine XS.iloadN X0.here hx rfl (hb hby d2_9) rfl ?_
    refine XS.iloadN X0.here hx rfl (hb hby d2_10) rfl ?_
    refine XS.icmpYes X0.here hx rfl (pc0 := 11) (pc' := 22) rfl (hb hby d2_11) rfl (flt (h3 : ¬ (vn < vj))).2.2.2 (by decide) (by decide) ?_
    refine XS.iloadN X0.here hx rfl (hb hby d2_22) rfl ?_
    exact k)
  exact own_retI X0 hx hret hlk (hb hby d2_23) (by rw [e0]; exact (⟨rfl, N0, KK0⟩)) (by decide) (by decide)
def own_Qcbbe (Z : State) (vi vj vn : Int32) (h0 : Heap) (n0 : Nat) (v : Option Value) (h : Heap) (L : List Loc) : Prop := (v = none ∧ Fr n0 L ∧ Keep h0 h [])
theorem own_ef_cbbe (m : MethodId) (vi : Int32) (vj : Int32) (vn : Int32)  : entryFrame m #[(.int vi), (.int vj), (.int vn)] 3 = mkF m 0 #[sI vi, sI vj, sI vn] [] := by first | (simp [entryFrame, mkF, argsToLocals, Value.category]; done) | rfl
theorem own_rmcbbe (l : Launch) (Z : State) (a0 : Array Value) (hw : ∀ d ∈ tables_1, d.before a0 Z = true) (hst : own_St Z) (ws : List Jvm.Cond) (vi vj vn : Int32) (h0 : Heap) (n0 : Nat) (X00 : Old Z n0 h0) (h1 : ¬ (vi < (0 : Int32))) (h2 : ¬ (vj < vi)) (h3 : ¬ (vn < vj)) :
    own_MF l own_mn3 jdk_42_method_158_code 3 (Option.none : Option Jvm.ClassFile.FieldType) ws (own_R 1 0 0 15) #[(.int vi), (.int vj), (.int vn)] Z h0 (own_Qcbbe Z vi vj vn h0 n0) := by
  refine own_body (plainFor_of_name own_pn2) (fun m => own_ef_cbbe m vi vj vn ) ?_
  intro p e s m below meth c s₁ hx hby hret hlk hml hZ hown hnm hh X0 e0
  have N0 := Fr.nil n0
  have KK0 : Keep h0 h0 [] := Keep.refl h0 _
  obtain ⟨⟨G1, O2, P5⟩, ⟨G3, O4, rG3⟩, -⟩ := id hst
  refine own_to (V := s₁.setTop (mkF m 3 #[sI vi, sI vj, sI vn] [(.int vn), (.int vj), (.int vi)])) ?_ fun t k => (by
    refine XS.iloadN X0.here hx rfl (hb hby d3_0) rfl ?_
    refine XS.iloadN X0.here hx rfl (hb hby d3_1) rfl ?_
    refine XS.iloadN X0.here hx rfl (hb hby d3_2) rfl ?_
    exact k)
  obtain ⟨T101, X101, e101, st101⟩ := getS2 X0 hx hZ hown (host := "") (Or.inl (own_i hw 79 rfl)) Via.refl e0 (O4.ext X00.2) (g := (mkF m 3 #[sI vi, sI vj, sI vn] [(.int vn), (.int vj), (.int vi)])) rfl (hb hby d3_3)
  refine own_to ?_ st101
  obtain ⟨_, T102, h102, L102, Lc102, X102, e102, hQ102, l102, st102⟩ := own_cS (own_rmcfti l Z a0 hw hst [] vi vj vn G3 h0 n0 X00 rG3 h1 h2 h3) X101 hx hZ hown e101 (own_i hw 81 rfl) (own_i hw 82 rfl) (own_i hw 80 rfl) (own_i hw 83 rfl) (by decide) (g := (mkF m 6 #[sI vi, sI vj, sI vn] [G3, (.int vn), (.int vj), (.int vi)])) rfl (by rw [hml]; rfl) (argsL := [(.int vi), (.int vj), (.int vn), G3]) (rest := []) (lenOf own_pd0 rfl) rfl rfl (hb hby d3_6) (W := 0) (Nat.le_of_eq rfl) (K := 0) (N := 0) rfl rfl (by decide) (by decide) (by decide) (by decide)
  obtain ⟨hv102, N102q, K102⟩ := hQ102
  subst hv102
  have Xo102 := X00.keep K102 all0
  have KK102 := KK0.trans K102 all0
  have N102 := l102 _ N0 N102q
  refine own_to ?_ st102
  refine own_to (V := T102.setTop (mkF m 10 #[sI vi, sI vj, sI vn] [])) ?_ fun t k => (by
    refine XS.pop X102.here hx rfl (hb hby d3_9) rfl rfl ?_
    exact k)
  exact own_retV X102 hx hret hlk (hb hby d3_10) (by rw [e102]; exact (⟨rfl, N102, KK102⟩)) (by decide) (by decide)
def own_Qisl1 (Z : State) (oa : Addr) (h0 : Heap) (n0 : Nat) (v : Option Value) (h : Heap) (L : List Loc) : Prop := (v = some (.int 1) ∧ Fr n0 L ∧ Keep h0 h [])
theorem own_ef_isl1 (m : MethodId) (oa : Addr)  : entryFrame m #[(.ref oa)] 1 = mkF m 0 #[sR oa] [] := by first | (simp [entryFrame, mkF, argsToLocals, Value.category]; done) | rfl
theorem own_rmisl1 (l : Launch) (Z : State) (a0 : Array Value) (hw : ∀ d ∈ tables_1, d.before a0 Z = true) (hst : own_St Z) (ws : List Jvm.Cond) (oa : Addr) (h0 : Heap) (n0 : Nat) (X00 : Old Z n0 h0) (hE : Exa Z h0 oa nm0) (hC : Fld Z h0 oa nm0 "coder" "B" (.int 0)) :
    own_MF l own_mn4 jdk_42_method_154_code 1 (Option.some Jvm.ClassFile.FieldType.boolean) ws (own_R 0 0 0 0) #[(.ref oa)] Z h0 (own_Qisl1 Z oa h0 n0) := by
  refine own_body (plainFor_of_name own_pn2) (fun m => own_ef_isl1 m oa ) ?_
  intro p e s m below meth c s₁ hx hby hret hlk hml hZ hown hnm hh X0 e0
  have N0 := Fr.nil n0
  have KK0 : Keep h0 h0 [] := Keep.refl h0 _
  obtain ⟨⟨G1, O2, P5⟩, ⟨G3, O4, rG3⟩, -⟩ := id hst
  obtain ⟨T101, X101, e101, st101⟩ := getS2 X0 hx hZ hown (host := "") (Or.inl (own_i hw 14 rfl)) Via.refl e0 (O2.ext X00.2) (g := (mkF m 0 #[sR oa] [])) rfl (hb hby d4_0)
  refine own_to ?_ st101
  refine own_to (V := T101.setTop (mkF m 7 #[sR oa] [(.ref oa)])) ?_ fun t k => (by
    refine XS.ifNo X101.here hx rfl (hb hby d4_3) rfl ((if0 _ _).trans (feq (P5 : ¬ (G1 = (0 : Int32)))).1) ?_
    refine XS.aloadN X101.here hx rfl (hb hby d4_6) rfl rfl ?_
    exact k)
  obtain ⟨T102, X102, e102, st102⟩ := getF X101 hx hZ hown (host := "") (Or.inl (own_i hw 26 rfl)) Via.refl e101 hC (g := (mkF m 7 #[sR oa] [(.ref oa)])) rfl rfl (hb hby d4_7)
  refine own_to ?_ st102
  refine own_to (V := T102.setTop (mkF m 18 #[sR oa] [(.int 1)])) ?_ fun t k => (by
    refine XS.ifNo X102.here hx rfl (hb hby d4_10) rfl ((if0 _ _).trans (teq ((by decide) : (0 : Int32) = (0 : Int32))).2) ?_
    refine XS.iconst X102.here hx rfl (hb hby d4_13) ?_
    refine XS.goto X102.here hx rfl (pc0 := 14) (pc' := 18) rfl (hb hby d4_14) (by decide) (by decide) ?_
    exact k)
  exact own_retN X102 hx (t := .boolean) (w := (1 : Int32)) hret (by decide) rfl hlk (hb hby d4_18) (by rw [e102]; exact (⟨rfl, N0, KK0⟩)) (by decide) (by decide)
def own_Qsibb (Z : State) (ot ob : Addr) (h0 : Heap) (n0 : Nat) (v : Option Value) (h : Heap) (L : List Loc) : Prop := (v = none ∧ Fr n0 L ∧ Keep h0 h [ot] ∧ (Fld Z h ot nm0 "value" "[B" (.ref ob)) ∧ (Fld Z h ot nm0 "coder" "B" (.int 0)))
theorem own_ef_sibb (m : MethodId) (ot : Addr) (ob : Addr)  : entryFrame m #[(.ref ot), (.ref ob), (.int 0)] 3 = mkF m 0 #[sR ot, sR ob, sI 0] [] := by first | (simp [entryFrame, mkF, argsToLocals, Value.category]; done) | rfl
theorem own_rmsibb (l : Launch) (Z : State) (a0 : Array Value) (hw : ∀ d ∈ tables_1, d.before a0 Z = true) (hst : own_St Z) (ws : List Jvm.Cond) (ot ob : Addr) (h0 : Heap) (n0 : Nat) (X00 : Old Z n0 h0) (hE : Exa Z h0 ot nm0) (hF1 : Fld Z h0 ot nm0 "value" "[B" .null) (hF2 : Fld Z h0 ot nm0 "coder" "B" (.int 0)) (hG : n0 ≤ ot) :
    own_MF l own_mn5 jdk_42_method_151_code 3 (Option.none : Option Jvm.ClassFile.FieldType) ws (own_R 1 0 0 12) #[(.ref ot), (.ref ob), (.int 0)] Z h0 (own_Qsibb Z ot ob h0 n0) := by
  refine own_body (plainFor_of_name own_pn2) (fun m => own_ef_sibb m ot ob ) ?_
  intro p e s m below meth c s₁ hx hby hret hlk hml hZ hown hnm hh X0 e0
  have N0 := Fr.nil n0
  have KK0 : Keep h0 h0 [ot] := Keep.refl h0 _
  obtain ⟨⟨G1, O2, P5⟩, ⟨G3, O4, rG3⟩, -⟩ := id hst
  refine own_to (V := s₁.setTop (mkF m 1 #[sR ot, sR ob, sI 0] [(.ref ot)])) ?_ fun t k => (by
    refine XS.aloadN X0.here hx rfl (hb hby d5_0) rfl rfl ?_
    exact k)
  obtain ⟨T101, X101, e101, st101⟩ := initO X0 hx hZ hown (own_i hw 11 rfl) (own_i hw 12 rfl) (own_i hw 13 rfl) e0 (g := (mkF m 1 #[sR ot, sR ob, sI 0] [(.ref ot)])) rfl (by rw [hml]; rfl) rfl (hb hby d5_1) (by decide) (W := 0) (by show 2 * 0 + _ ≤ _; exact Nat.le_of_eq rfl) (by decide)
  refine own_to ?_ st101
  refine own_to (V := T101.setTop (mkF m 6 #[sR ot, sR ob, sI 0] [(.ref ob), (.ref ot)])) ?_ fun t k => (by
    refine XS.aloadN X101.here hx rfl (hb hby d5_4) rfl rfl ?_
    refine XS.aloadN X101.here hx rfl (hb hby d5_5) rfl rfl ?_
    exact k)
  obtain ⟨T102, h102, X102, e102, W102, st102⟩ := putF X101 hx hZ hown (host := "") (Or.inl (own_i hw 28 rfl)) Via.refl e101 hF1 hE (Or.inr ⟨(own_i hw 29 rfl), rfl, hnm⟩) (own_i hw 2 rfl) (ty := (.array .byte)) (by decide) rfl rfl (g := (mkF m 6 #[sR ot, sR ob, sI 0] [(.ref ob), (.ref ot)])) rfl rfl (hb hby d5_6)
  have Xo102 := X00.wr W102 hG
  have KK102 := KK0.wr W102 (Or.inl (List.mem_of_getElem? (i := 0) rfl))
  have Fw102 : Fld Z h102 ot nm0 "value" "[B" (.ref ob) := hF1.same W102
  have N102 := Fr.snoc X102 N0 hG
  refine own_to ?_ st102
  refine own_to (V := T102.setTop (mkF m 11 #[sR ot, sR ob, sI 0] [(.int 0), (.ref ot)])) ?_ fun t k => (by
    refine XS.aloadN X102.here hx rfl (hb hby d5_9) rfl rfl ?_
    refine XS.iloadN X102.here hx rfl (hb hby d5_10) rfl ?_
    exact k)
  have F103 := (hE.wr W102)
  have F104 := (hF2.other W102 (Or.inr (slot_ne (Or.inr (own_i hw 27 rfl)) (Or.inr (own_i hw 29 rfl)) (by decide) (t := .byte) (t' := (.array .byte)) (by decide) (by decide))))
  obtain ⟨T105, h105, X105, e105, W105, st105⟩ := putF X102 hx hZ hown (host := "") (Or.inl (own_i hw 26 rfl)) Via.refl e102 F104 F103 (Or.inr ⟨(own_i hw 27 rfl), rfl, hnm⟩) (own_i hw 2 rfl) (ty := .byte) (by decide) rfl rfl (g := (mkF m 11 #[sR ot, sR ob, sI 0] [(.int 0), (.ref ot)])) rfl rfl (hb hby d5_11)
  have Xo105 := Xo102.wr W105 hG
  have KK105 := KK102.wr W105 (Or.inl (List.mem_of_getElem? (i := 0) rfl))
  have Fw105 : Fld Z h105 ot nm0 "coder" "B" (.int 0) := F104.same W105
  have N105 := Fr.snoc X105 N102 hG
  refine own_to ?_ st105
  have F106 := (Fw102.other W105 (Or.inr (slot_ne (Or.inr (own_i hw 29 rfl)) (Or.inr (own_i hw 27 rfl)) (by decide) (t := (.array .byte)) (t' := .byte) (by decide) (by decide))))
  exact own_retV X105 hx hret hlk (hb hby d5_14) (by rw [e105]; exact (⟨rfl, N105, KK105, F106, Fw105⟩)) (by decide) (by decide)
def own_Qmamax (Z : State) (va vb : Int32) (h0 : Heap) (n0 : Nat) (v : Option Value) (h : Heap) (L : List Loc) : Prop := (v = some (.int va) ∧ Fr n0 L ∧ Keep h0 h [] ∧ (¬ (va < vb))) ∨ (v = some (.int vb) ∧ Fr n0 L ∧ Keep h0 h [] ∧ (va < vb))
theorem own_ef_mamax (m : MethodId) (va : Int32) (vb : Int32)  : entryFrame m #[(.int va), (.int vb)] 2 = mkF m 0 #[sI va, sI vb] [] := by first | (simp [entryFrame, mkF, argsToLocals, Value.category]; done) | rfl
theorem own_rmmamax (l : Launch) (Z : State) (a0 : Array Value) (hw : ∀ d ∈ tables_1, d.before a0 Z = true) (hst : own_St Z) (ws : List Jvm.Cond) (va vb : Int32) (h0 : Heap) (n0 : Nat) (X00 : Old Z n0 h0)  :
    own_MF l own_mn6 jdk_29_method_65_code 2 (Option.some Jvm.ClassFile.FieldType.int) ws (own_R 0 0 0 0) #[(.int va), (.int vb)] Z h0 (own_Qmamax Z va vb h0 n0) := by
  refine own_body (Jvm.Free.JP.mathPlain rfl (by decide +kernel)) (fun m => own_ef_mamax m va vb ) ?_
  intro p e s m below meth c s₁ hx hby hret hlk hml hZ hown hnm hh X0 e0
  have N0 := Fr.nil n0
  have KK0 : Keep h0 h0 [] := Keep.refl h0 _
  obtain ⟨⟨G1, O2, P5⟩, ⟨G3, O4, rG3⟩, -⟩ := id hst
  refine own_to (V := s₁.setTop (mkF m 2 #[sI va, sI vb] [(.int vb), (.int va)])) ?_ fun t k => (by
    refine XS.iloadN X0.here hx rfl (hb hby d6_0) rfl ?_
    refine XS.iloadN X0.here hx rfl (hb hby d6_1) rfl ?_
    exact k)
  by_cases hc2_101 : va < vb
  ·skip
   refine own_to (V := s₁.setTop (mkF m 10 #[sI va, sI vb] [(.int vb)])) ?_ fun t k => (by
     refine XS.icmpYes X0.here hx rfl (pc0 := 2) (pc' := 9) rfl (hb hby d6_2) rfl (tlt (hc2_101 : va < vb)).1 (by decide) (by decide) ?_
     refine XS.iloadN X0.here hx rfl (hb hby d6_9) rfl ?_
     exact k)
   exact own_retI X0 hx hret hlk (hb hby d6_10) (by rw [e0]; exact (Or.inr (⟨rfl, N0, KK0, hc2_101⟩))) (by decide) (by decide)
  ·skip
   refine own_to (V := s₁.setTop (mkF m 10 #[sI va, sI vb] [(.int va)])) ?_ fun t k => (by
     refine XS.icmpNo X0.here hx rfl (hb hby d6_2) rfl (flt (hc2_101 : ¬ (va < vb))).1 ?_
     refine XS.iloadN X0.here hx rfl (hb hby d6_5) rfl ?_
     refine XS.goto X0.here hx rfl (pc0 := 6) (pc' := 10) rfl (hb hby d6_6) (by decide) (by decide) ?_
     exact k)
   exact own_retI X0 hx hret hlk (hb hby d6_10) (by rw [e0]; exact (Or.inl ⟨rfl, N0, KK0, hc2_101⟩)) (by decide) (by decide)
def own_Qrec (Z : State) (ot : Addr) (h0 : Heap) (n0 : Nat) (v : Option Value) (h : Heap) (L : List Loc) : Prop := (v = none ∧ Fr n0 L ∧ Keep h0 h [])
theorem own_ef_rec (m : MethodId) (ot : Addr)  : entryFrame m #[(.ref ot)] 1 = mkF m 0 #[sR ot] [] := by first | (simp [entryFrame, mkF, argsToLocals, Value.category]; done) | rfl
theorem own_rmrec (l : Launch) (Z : State) (a0 : Array Value) (hw : ∀ d ∈ tables_1, d.before a0 Z = true) (hst : own_St Z) (ws : List Jvm.Cond) (ot : Addr) (h0 : Heap) (n0 : Nat) (X00 : Old Z n0 h0)  :
    own_MF l own_mn7 jdk_30_method_1_code 1 (Option.none : Option Jvm.ClassFile.FieldType) ws (own_R 1 0 0 12) #[(.ref ot)] Z h0 (own_Qrec Z ot h0 n0) := by
  refine own_body (plainFor_of_name own_pn3) (fun m => own_ef_rec m ot ) ?_
  intro p e s m below meth c s₁ hx hby hret hlk hml hZ hown hnm hh X0 e0
  have N0 := Fr.nil n0
  have KK0 : Keep h0 h0 [] := Keep.refl h0 _
  obtain ⟨⟨G1, O2, P5⟩, ⟨G3, O4, rG3⟩, -⟩ := id hst
  refine own_to (V := s₁.setTop (mkF m 1 #[sR ot] [(.ref ot)])) ?_ fun t k => (by
    refine XS.aloadN X0.here hx rfl (hb hby d7_0) rfl rfl ?_
    exact k)
  obtain ⟨T101, X101, e101, st101⟩ := initO X0 hx hZ hown (own_i hw 49 rfl) (own_i hw 12 rfl) (own_i hw 13 rfl) e0 (g := (mkF m 1 #[sR ot] [(.ref ot)])) rfl (by rw [hml]; rfl) rfl (hb hby d7_1) (by decide) (W := 0) (by show 2 * 0 + _ ≤ _; exact Nat.le_of_eq rfl) (by decide)
  refine own_to ?_ st101
  exact own_retV X101 hx hret hlk (hb hby d7_4) (by rw [e101]; exact (⟨rfl, N0, KK0⟩)) (by decide) (by decide)
def own_Qwini (Z : State) (ot : Addr) (vt : Value) (vi vj : Int32) (h0 : Heap) (n0 : Nat) (v : Option Value) (h : Heap) (L : List Loc) : Prop := (v = none ∧ Fr n0 L ∧ Keep h0 h [ot] ∧ (Fld Z h ot nm1 "text" nm2 vt) ∧ (Fld Z h ot nm1 "start" "I" (.int vi)) ∧ (Fld Z h ot nm1 "end" "I" (.int vj)))
theorem own_ef_wini (m : MethodId) (ot : Addr) (vt : Value) (vi : Int32) (vj : Int32) (r0 : vt.isRef = true) : entryFrame m #[(.ref ot), vt, (.int vi), (.int vj)] 4 = mkF m 0 #[sR ot, .val vt, sI vi, sI vj] [] := by first | (rcases ref_cases r0 with rfl | ⟨_, rfl⟩; all_goals first | (simp [entryFrame, mkF, argsToLocals, Value.category]; done) | rfl)
theorem own_rmwini (l : Launch) (Z : State) (a0 : Array Value) (hw : ∀ d ∈ tables_1, d.before a0 Z = true) (hst : own_St Z) (ws : List Jvm.Cond) (ot : Addr) (vt : Value) (vi vj : Int32) (h0 : Heap) (n0 : Nat) (X00 : Old Z n0 h0) (rt : vt.isRef = true) (hE : Exa Z h0 ot nm1) (f1 : Fld Z h0 ot nm1 "text" nm2 .null) (f2 : Fld Z h0 ot nm1 "start" "I" (.int 0)) (f3 : Fld Z h0 ot nm1 "end" "I" (.int 0)) (hG : n0 ≤ ot) :
    own_MF l own_mn8 prog_77_method_1_code 4 (Option.none : Option Jvm.ClassFile.FieldType) ws (own_R 2 0 0 24) #[(.ref ot), vt, (.int vi), (.int vj)] Z h0 (own_Qwini Z ot vt vi vj h0 n0) := by
  refine own_body (plainFor_of_name own_pn4) (fun m => own_ef_wini m ot vt vi vj rt) ?_
  intro p e s m below meth c s₁ hx hby hret hlk hml hZ hown hnm hh X0 e0
  have N0 := Fr.nil n0
  have KK0 : Keep h0 h0 [ot] := Keep.refl h0 _
  obtain ⟨⟨G1, O2, P5⟩, ⟨G3, O4, rG3⟩, -⟩ := id hst
  refine own_to (V := s₁.setTop (mkF m 1 #[sR ot, .val vt, sI vi, sI vj] [(.ref ot)])) ?_ fun t k => (by
    refine XS.aloadN X0.here hx rfl (hb hby d8_0) rfl rfl ?_
    exact k)
  obtain ⟨_, T101, h101, L101, Lc101, X101, e101, hQ101, l101, st101⟩ := own_cI (own_rmrec l Z a0 hw hst [] ot h0 n0 X00 ) X0 hx hZ hown e0 rfl (own_i hw 44 rfl) (own_i hw 45 rfl) (own_i hw 47 rfl) (own_i hw 48 rfl) (by decide) (g := (mkF m 1 #[sR ot, .val vt, sI vi, sI vj] [(.ref ot)])) rfl (by rw [hml]; rfl) (argsL := []) (rest := []) (lenOf own_pd1 rfl) rfl rfl (hb hby d8_1) (W := 0) (Nat.le_of_eq rfl) (K := 0) (N := 0) rfl rfl (by decide) (by decide) (by decide) (by decide)
  obtain ⟨hv101, N101q, K101⟩ := hQ101
  subst hv101
  have Xo101 := X00.keep K101 all0
  have KK101 := KK0.trans K101 all0
  have N101 := l101 _ N0 N101q
  refine own_to ?_ st101
  refine own_to (V := T101.setTop (mkF m 6 #[sR ot, .val vt, sI vi, sI vj] [vt, (.ref ot)])) ?_ fun t k => (by
    refine XS.aloadN X101.here hx rfl (hb hby d8_4) rfl rfl ?_
    refine XS.aloadN X101.here hx rfl (hb hby d8_5) rfl rt ?_
    exact k)
  have F102 := (hE.keep K101)
  have F103 := (f1.keep K101 List.not_mem_nil)
  obtain ⟨T104, h104, X104, e104, W104, st104⟩ := putF X101 hx hZ hown (host := "") (Or.inl (own_i hw 50 rfl)) Via.refl e101 F103 F102 (Or.inr ⟨(own_i hw 51 rfl), rfl, hnm⟩) (own_i hw 39 rfl) (ty := (.object "java/lang/String")) (by decide) (own_narR rt) (own_fitR rt) (g := (mkF m 6 #[sR ot, .val vt, sI vi, sI vj] [vt, (.ref ot)])) rfl rfl (hb hby d8_6)
  have Xo104 := Xo101.wr W104 hG
  have KK104 := KK101.wr W104 (Or.inl (List.mem_of_getElem? (i := 0) rfl))
  have Fw104 : Fld Z h104 ot nm1 "text" nm2 vt := F103.same W104
  have N104 := Fr.snoc X104 N101 hG
  refine own_to ?_ st104
  refine own_to (V := T104.setTop (mkF m 11 #[sR ot, .val vt, sI vi, sI vj] [(.int vi), (.ref ot)])) ?_ fun t k => (by
    refine XS.aloadN X104.here hx rfl (hb hby d8_9) rfl rfl ?_
    refine XS.iloadN X104.here hx rfl (hb hby d8_10) rfl ?_
    exact k)
  have F105 := (F102.wr W104)
  have F106 := ((f2.keep K101 List.not_mem_nil).other W104 (Or.inr (slot_ne (Or.inr (own_i hw 53 rfl)) (Or.inr (own_i hw 51 rfl)) (by decide) (t := .int) (t' := (.object "java/lang/String")) (by decide) (by decide))))
  obtain ⟨T107, h107, X107, e107, W107, st107⟩ := putF X104 hx hZ hown (host := "") (Or.inl (own_i hw 52 rfl)) Via.refl e104 F106 F105 (Or.inr ⟨(own_i hw 53 rfl), rfl, hnm⟩) (own_i hw 39 rfl) (ty := .int) (by decide) rfl rfl (g := (mkF m 11 #[sR ot, .val vt, sI vi, sI vj] [(.int vi), (.ref ot)])) rfl rfl (hb hby d8_11)
  have Xo107 := Xo104.wr W107 hG
  have KK107 := KK104.wr W107 (Or.inl (List.mem_of_getElem? (i := 0) rfl))
  have Fw107 : Fld Z h107 ot nm1 "start" "I" (.int vi) := F106.same W107
  have N107 := Fr.snoc X107 N104 hG
  refine own_to ?_ st107
  refine own_to (V := T107.setTop (mkF m 16 #[sR ot, .val vt, sI vi, sI vj] [(.int vj), (.ref ot)])) ?_ fun t k => (by
    refine XS.aloadN X107.here hx rfl (hb hby d8_14) rfl rfl ?_
    refine XS.iloadN X107.here hx rfl (hb hby d8_15) rfl ?_
    exact k)
  have F108 := (F105.wr W107)
  have F109 := (((f3.keep K101 List.not_mem_nil).other W104 (Or.inr (slot_ne (Or.inr (own_i hw 55 rfl)) (Or.inr (own_i hw 51 rfl)) (by decide) (t := .int) (t' := (.object "java/lang/String")) (by decide) (by decide)))).other W107 (Or.inr (slot_ne (Or.inr (own_i hw 55 rfl)) (Or.inr (own_i hw 53 rfl)) (by decide) (t := .int) (t' := .int) (by decide) (by decide))))
  obtain ⟨T110, h110, X110, e110, W110, st110⟩ := putF X107 hx hZ hown (host := "") (Or.inl (own_i hw 54 rfl)) Via.refl e107 F109 F108 (Or.inr ⟨(own_i hw 55 rfl), rfl, hnm⟩) (own_i hw 39 rfl) (ty := .int) (by decide) rfl rfl (g := (mkF m 16 #[sR ot, .val vt, sI vi, sI vj] [(.int vj), (.ref ot)])) rfl rfl (hb hby d8_16)
  have Xo110 := Xo107.wr W110 hG
  have KK110 := KK107.wr W110 (Or.inl (List.mem_of_getElem? (i := 0) rfl))
  have Fw110 : Fld Z h110 ot nm1 "end" "I" (.int vj) := F109.same W110
  have N110 := Fr.snoc X110 N107 hG
  refine own_to ?_ st110
  have F111 := ((Fw104.other W107 (Or.inr (slot_ne (Or.inr (own_i hw 51 rfl)) (Or.inr (own_i hw 53 rfl)) (by decide) (t := (.object "java/lang/String")) (t' := .int) (by decide) (by decide)))).other W110 (Or.inr (slot_ne (Or.inr (own_i hw 51 rfl)) (Or.inr (own_i hw 55 rfl)) (by decide) (t := (.object "java/lang/String")) (t' := .int) (by decide) (by decide))))
  have F112 := (Fw107.other W110 (Or.inr (slot_ne (Or.inr (own_i hw 53 rfl)) (Or.inr (own_i hw 55 rfl)) (by decide) (t := .int) (t' := .int) (by decide) (by decide))))
  exact own_retV X110 hx hret hlk (hb hby d8_19) (by rw [e110]; exact (⟨rfl, N110, KK110, F111, F112, Fw110⟩)) (by decide) (by decide)
def own_Qnst4_0_0 (Z : State) (ob : Addr) (kb : ClassId) (c0 c1 c2 c3 : Int32) (h0 : Heap) (n0 : Nat) (v : Option Value) (h : Heap) (L : List Loc) : Prop := (∃ (oo : Addr) (ou : Addr), v = some (.ref oo) ∧ Fr n0 L ∧ Keep h0 h [] ∧ (own_Str Z h oo ou ([] : List Int32)))
theorem own_ef_nst4_0_0 (m : MethodId) (ob : Addr)  : entryFrame m #[(.ref ob), (.int 0), (.int 0)] 3 = mkF m 0 #[sR ob, sI 0, sI 0] [] := by first | (simp [entryFrame, mkF, argsToLocals, Value.category]; done) | rfl
theorem own_rmnst4_0_0 (l : Launch) (Z : State) (a0 : Array Value) (hw : ∀ d ∈ tables_1, d.before a0 Z = true) (hst : own_St Z) (ws : List Jvm.Cond) (ob : Addr) (kb : ClassId) (c0 c1 c2 c3 : Int32) (h0 : Heap) (n0 : Nat) (X00 : Old Z n0 h0) (l0 : ¬ c0 < 0 ∧ ¬ (255 : Int32) < c0) (l1 : ¬ c1 < 0 ∧ ¬ (255 : Int32) < c1) (l2 : ¬ c2 < 0 ∧ ¬ (255 : Int32) < c2) (l3 : ¬ c3 < 0 ∧ ¬ (255 : Int32) < c3) (hA : Arv Z h0 ob kb .byte (4 : Int32) [(.int (StrChars.lo8 c0)), (.int (StrChars.lo8 c1)), (.int (StrChars.lo8 c2)), (.int (StrChars.lo8 c3))] (.int (0 : Int32))) :
    MetFree l own_mn9 (head1 (Jvm.Cond.code own_mn9 jdk_43_method_47_code 3 (Option.some (Jvm.ClassFile.FieldType.object "java/lang/String")) :: ws) (own_R 0 2 4 0)) (fun a U => a = #[(.ref ob), (.int 0), (.int 0)] ∧ Z.Warmed39 U.vm ∧ U.heap = h0 ∧ CHv Z consts_1 U.vm h0) (fun _ _ _ _ _ => True) (fun _ U o U' => ∃ v L, o = .returned v ∧ own_Qnst4_0_0 Z ob kb c0 c1 c2 c3 h0 n0 v U'.heap L ∧ CHr Z consts_1 U.vm U.heap U'.vm U'.heap ∧ ReturnedEndW U o U' L (own_R 0 2 4 0).cells (own_R 0 2 4 0).slots) := by
  refine MetFree.of_bodySF (plainFor_of_name own_pn5) hisR ?_
  intro p e s m args below meth c s₁ Bd hml0 hP hK
  obtain ⟨rfl, hZ, hh, hCH⟩ := hP
  have hx := Bd.exec
  have hby := Bd.bytes
  have hret := Bd.returns
  have hlk : meth.locks = false := BodyLoose.notSynchronized Bd
  have hml : c.maxLocals = 3 := hml0
  have hown : s.vm.findClass "java/lang/StringLatin1" = some m.cls := findClass_of_methodNamed Bd.named
  have hnm := (name_of_methodNamed Bd.named Bd.method).1
  have X0 : Stand p l e (own_R 0 2 4 0) (s.setVm s.vm) m #[(.ref ob), (.int 0), (.int 0)] below meth c s₁ [] 0 0 := Stand.of_body Bd
  have e0 : s₁.heap = h0 := by rw [← hh, Bd.state]; rfl
  have N0 := Fr.nil n0
  have KK0 : Keep h0 h0 [] := Keep.refl h0 _
  have hS0 : s.Since s.vm 0 := (State.WarmedH.refl s).since 0
  have hk0 : 0 ≤ h0.size := Nat.zero_le _
  have Ch0 : CHr Z consts_1 s.vm h0 s.vm h0 := CHr.refl hCH
  refine own_startH (own_Qnst4_0_0 Z ob kb c0 c1 c2 c3 h0 n0) ?_
  refine own_to (V := s₁.setTop (mkF m 0 #[sR ob, sI 0, sI 0] [])) ?_ (fun t k => castTop (own_ef_nst4_0_0 m ob ) k)
  obtain ⟨⟨G1, O2, P5⟩, ⟨G3, O4, rG3⟩, -⟩ := id hst
  refine own_to (V := s₁.setTop (mkF m 4 #[sR ob, sI 0, sI 0] [])) ?_ fun t k => (by
    refine XS.iloadN X0.here hx rfl (hb hby d9_0) rfl ?_
    refine XS.ifNo X0.here hx rfl (hb hby d9_1) rfl ((if0 _ _).trans (teq ((by decide) : (0 : Int32) = (0 : Int32))).2) ?_
    exact k)
  obtain ⟨s101, T101, h101, k101, t101, kb101, X101, e101, E101, hS101, hk101, hZ101, hown101, gE101, gC101, gV101, gK101, la101, lb101, hC101, hL101, hne101, st101⟩ := ldcCH X0 hx hZ hown (own_i hw 131 rfl) (own_hsa hw) e0 hS0 hk0 (own_hEL hw) (own_mem131) Ch0.1 (vs := ([] : List Value)) (z := (0 : Int32)) ⟨by decide, by decide +kernel⟩ (by decide) (by decide) (g := (mkF m 4 #[sR ob, sI 0, sI 0] [])) rfl (hb hby d9_4) (n := 0) (by decide) (by decide) (by decide) (by decide)
  have Cs101 : CHr Z consts_1 s.vm h0 T101.vm h101 := hC101
  have Ch101 := Ch0.trans Cs101
  have Xo101 := X00.ext E101
  have KK101 := KK0.ext E101
  have Fs101 : own_Str Z h101 s101 t101 ([] : List Int32) := own_mkLit gE101 gV101 gC101 gK101 (by decide) (by decide) (by decide +kernel) (by decide)
  refine own_to ?_ st101
  exact own_retRH X101 hx hS101 (own_hk e101 hk101) (by rw [e101, hh]; exact Ch101.trans (CHv.at X101 hZ101 (own_hEL hw) Ch101.1)) hret (by decide) rfl hlk (hb hby d9_6) (by rw [e101]; exact (⟨s101, t101, rfl, N0, KK101, Fs101⟩)) (by decide) (by decide)
def own_Qsub4_0_0 (Z : State) (oa ua : Addr) (c0 c1 c2 c3 : Int32) (h0 : Heap) (n0 : Nat) (v : Option Value) (h : Heap) (L : List Loc) : Prop := (∃ (oo : Addr) (ou : Addr), v = some (.ref oo) ∧ Fr n0 L ∧ Keep h0 h [] ∧ (own_Str Z h oo ou ([] : List Int32)))
theorem own_ef_sub4_0_0 (m : MethodId) (oa : Addr)  : entryFrame m #[(.ref oa), (.int 0), (.int 0)] 5 = mkF m 0 #[sR oa, sI 0, sI 0, .unset, .unset] [] := by first | (simp [entryFrame, mkF, argsToLocals, Value.category]; done) | rfl
theorem own_rmsub4_0_0 (l : Launch) (Z : State) (a0 : Array Value) (hw : ∀ d ∈ tables_1, d.before a0 Z = true) (hst : own_St Z) (ws : List Jvm.Cond) (oa ua : Addr) (c0 c1 c2 c3 : Int32) (h0 : Heap) (n0 : Nat) (X00 : Old Z n0 h0) (l0 : ¬ c0 < 0 ∧ ¬ (255 : Int32) < c0) (l1 : ¬ c1 < 0 ∧ ¬ (255 : Int32) < c1) (l2 : ¬ c2 < 0 ∧ ¬ (255 : Int32) < c2) (l3 : ¬ c3 < 0 ∧ ¬ (255 : Int32) < c3) (hS : own_Str Z h0 oa ua ([c0, c1, c2, c3] : List Int32)) :
    MetFree l own_mn10 (head1 (Jvm.Cond.code own_mn10 jdk_42_method_92_code 5 (Option.some (Jvm.ClassFile.FieldType.object "java/lang/String")) :: ws) (own_R 2 2 4 29)) (fun a U => a = #[(.ref oa), (.int 0), (.int 0)] ∧ Z.Warmed39 U.vm ∧ U.heap = h0 ∧ CHv Z consts_1 U.vm h0) (fun _ _ _ _ _ => True) (fun _ U o U' => ∃ v L, o = .returned v ∧ own_Qsub4_0_0 Z oa ua c0 c1 c2 c3 h0 n0 v U'.heap L ∧ CHr Z consts_1 U.vm U.heap U'.vm U'.heap ∧ ReturnedEndW U o U' L (own_R 2 2 4 29).cells (own_R 2 2 4 29).slots) := by
  refine MetFree.of_bodySF (plainFor_of_name own_pn2) hisR ?_
  intro p e s m args below meth c s₁ Bd hml0 hP hK
  obtain ⟨rfl, hZ, hh, hCH⟩ := hP
  have hx := Bd.exec
  have hby := Bd.bytes
  have hret := Bd.returns
  have hlk : meth.locks = false := BodyLoose.notSynchronized Bd
  have hml : c.maxLocals = 5 := hml0
  have hown : s.vm.findClass "java/lang/String" = some m.cls := findClass_of_methodNamed Bd.named
  have hnm := (name_of_methodNamed Bd.named Bd.method).1
  have X0 : Stand p l e (own_R 2 2 4 29) (s.setVm s.vm) m #[(.ref oa), (.int 0), (.int 0)] below meth c s₁ [] 0 0 := Stand.of_body Bd
  have e0 : s₁.heap = h0 := by rw [← hh, Bd.state]; rfl
  have N0 := Fr.nil n0
  have KK0 : Keep h0 h0 [] := Keep.refl h0 _
  have hS0 : s.Since s.vm 0 := (State.WarmedH.refl s).since 0
  have hk0 : 0 ≤ h0.size := Nat.zero_le _
  have Ch0 : CHr Z consts_1 s.vm h0 s.vm h0 := CHr.refl hCH
  refine own_startH (own_Qsub4_0_0 Z oa ua c0 c1 c2 c3 h0 n0) ?_
  refine own_to (V := s₁.setTop (mkF m 0 #[sR oa, sI 0, sI 0, .unset, .unset] [])) ?_ (fun t k => castTop (own_ef_sub4_0_0 m oa ) k)
  obtain ⟨⟨G1, O2, P5⟩, ⟨G3, O4, rG3⟩, -⟩ := id hst
  obtain ⟨sk101, sE101, sV101, sC101, sK101', sb101⟩ := own_Str.latinL hS (own_lat2 (own_allS l0 (own_allS l1 (own_allS l2 (own_allS l3 own_all0)))))
  have sK101 : Arv Z h0 ua sk101 .byte (4 : Int32) [(.int (StrChars.lo8 c0)), (.int (StrChars.lo8 c1)), (.int (StrChars.lo8 c2)), (.int (StrChars.lo8 c3))] (.int (0 : Int32)) := sK101'
  refine own_to (V := s₁.setTop (mkF m 1 #[sR oa, sI 0, sI 0, .unset, .unset] [(.ref oa)])) ?_ fun t k => (by
    refine XS.aloadN X0.here hx rfl (hb hby d10_0) rfl rfl ?_
    exact k)
  obtain ⟨sE103, sd103, sN103, sk103, sv103, sV103, sC103, sK103, sc103, sb103, sl103⟩ := id hS
  obtain ⟨cq102, kq102, q102a, q102b, q102c⟩ := isOf hZ e0 sE101
  obtain ⟨_, _, ⟨T102, L102, k102, n102⟩, -, X102, ⟨Lc102, hQ102, l102, y102, z102⟩, st102⟩ := X0.virtualBack hx (y := own_mn11) (z := own_mn11) hown (mvT hZ (own_i hw 66 rfl)) (mvT hZ (own_i hw 67 rfl)) (notFace_of_selects (args := #[]) (mvT hZ (own_i hw 69 rfl))) (mvT hZ (own_i hw 69 rfl)) (mvT hZ (own_i hw 68 rfl)) (by decide) (StrChars.Road.lenW (W := 0) hZ (own_hln hw) (kI := 4) (own_i hw 2 rfl) sE103 sV103 sC103 sK103 sc103 sb103 (O2.ext X00.2) P5 sl103 (by decide) (by decide)) q102a q102c (g := (mkF m 1 #[sR oa, sI 0, sI 0, .unset, .unset] [(.ref oa)])) rfl (by rw [hml]; rfl) (Steps.refl _) (argsL := []) (rest := []) (lenOf own_pd2 rfl) rfl (by show 2 * 0 + _ ≤ _; exact Nat.le_of_eq rfl) (hb hby d10_1) (fun _ _ => ⟨rfl, e0, (by decide : 0 + 0 ≤ _), (by decide : 0 + 0 ≤ _)⟩)
  dsimp only [own_R, Pt.U, Pt.locs, Pt.cells, Pt.slots] at X102 l102 y102 z102 st102 hQ102
  subst y102 z102
  obtain ⟨hv102, hL102, hh102⟩ := hQ102
  subst hL102
  have N102 : Fr n0 L102 := by rw [l102]; exact Fr.app N0 (Fr.nil n0)
  subst hv102
  refine own_to ?_ (fun t k => st102.trans k)
  refine own_to (V := T102.setTop (mkF m 8 #[sR oa, sI 0, sI 0, sI 4, .unset] [(.int 4), (.int 0), (.int 0)])) ?_ fun t k => (by
    refine XS.istoreN X102.here hx rfl (hb hby d10_4) rfl (l' := #[sR oa, sI 0, sI 0, sI 4, .unset]) rfl ?_
    refine XS.iloadN X102.here hx rfl (hb hby d10_5) rfl ?_
    refine XS.iloadN X102.here hx rfl (hb hby d10_6) rfl ?_
    refine XS.iloadN X102.here hx rfl (hb hby d10_7) rfl ?_
    exact k)
  obtain ⟨_, T104, h104, L104, Lc104, X104, e104, hQ104, l104, st104⟩ := own_cS (own_rmcbbe l Z a0 hw hst [] (0 : Int32) (0 : Int32) (4 : Int32) h0 n0 X00 (by first | assumption | decide | omega | (simp; done) | rfl) (by first | assumption | decide | omega | (simp; done) | rfl) (by first | assumption | decide | omega | (simp; done) | rfl)) X102 hx hZ hown hh102 (own_i hw 76 rfl) (own_i hw 77 rfl) (own_i hw 3 rfl) (own_i hw 78 rfl) (by decide) (g := (mkF m 8 #[sR oa, sI 0, sI 0, sI 4, .unset] [(.int 4), (.int 0), (.int 0)])) rfl (by rw [hml]; rfl) (argsL := [(.int 0), (.int 0), (.int 4)]) (rest := []) (lenOf own_pd3 rfl) rfl rfl (hb hby d10_8) (W := 0) (Nat.le_of_eq rfl) (K := 0) (N := 0) rfl rfl (by decide) (by decide) (by decide) (by decide)
  obtain ⟨hv104, N104q, K104⟩ := hQ104
  subst hv104
  have Cs104 : CHr Z consts_1 s.vm h0 s.vm h104 := CHr.keep K104 sf0 Ch0.1
  have Ch104 := Ch0.trans Cs104
  have Xo104 := X00.keep K104 all0
  have KK104 := KK0.trans K104 all0
  have N104 := l104 _ N102 N104q
  refine own_to ?_ st104
  refine own_to (V := T104.setTop (mkF m 28 #[sR oa, sI 0, sI 0, sI 4, sI 0] [(.ref oa)])) ?_ fun t k => (by
    refine XS.iloadN X104.here hx rfl (hb hby d10_11) rfl ?_
    refine XS.ifNo X104.here hx rfl (hb hby d10_12) rfl ((if0 _ _).trans (teq ((by decide) : (0 : Int32) = (0 : Int32))).2) ?_
    refine XS.iloadN X104.here hx rfl (hb hby d10_15) rfl ?_
    refine XS.iloadN X104.here hx rfl (hb hby d10_16) rfl ?_
    refine XS.icmpYes X104.here hx rfl (pc0 := 17) (pc' := 22) rfl (hb hby d10_17) rfl (feq ((by decide) : ¬ ((0 : Int32) = (4 : Int32)))).2 (by decide) (by decide) ?_
    refine XS.iloadN X104.here hx rfl (hb hby d10_22) rfl ?_
    refine XS.iloadN X104.here hx rfl (hb hby d10_23) rfl ?_
    refine XS.isub X104.here hx rfl (hb hby d10_24) rfl ?_
    refine XS.istore X104.here hx rfl (hb hby d10_25) rfl (l' := #[sR oa, sI 0, sI 0, sI 4, sI 0]) rfl ?_
    refine XS.aloadN X104.here hx rfl (hb hby d10_27) rfl rfl ?_
    exact k)
  have F106 := (sE101.keep K104)
  have F107 := (sC101.keep K104 List.not_mem_nil)
  obtain ⟨_, T105, h105, L105, Lc105, X105, e105, hQ105, l105, st105⟩ := own_cV (own_rmisl1 l Z a0 hw hst [] oa h104 n0 Xo104 F106 F107) X104 hx hZ hown e104 F106 (own_i hw 84 rfl) (own_i hw 85 rfl) (notFace_of_selects (args := #[]) (mvT hZ (own_i hw 87 rfl))) (own_i hw 87 rfl) (own_i hw 86 rfl) (own_i hw 3 rfl) (own_i hw 88 rfl) (by decide) (g := (mkF m 28 #[sR oa, sI 0, sI 0, sI 4, sI 0] [(.ref oa)])) rfl (by rw [hml]; rfl) (argsL := []) (rest := []) (lenOf own_pd4 rfl) rfl rfl (hb hby d10_28) (W := 0) (Nat.le_of_eq rfl) (K := 0) (N := 0) rfl rfl (by decide) (by decide) (by decide) (by decide)
  obtain ⟨hv105, N105q, K105⟩ := hQ105
  subst hv105
  have Cs105 : CHr Z consts_1 s.vm h104 s.vm h105 := CHr.keep K105 sf0 Ch104.1
  have Ch105 := Ch104.trans Cs105
  have Xo105 := Xo104.keep K105 all0
  have KK105 := KK104.trans K105 all0
  have N105 := l105 _ N104 N105q
  refine own_to ?_ st105
  refine own_to (V := T105.setTop (mkF m 35 #[sR oa, sI 0, sI 0, sI 4, sI 0] [(.ref oa)])) ?_ fun t k => (by
    refine XS.ifNo X105.here hx rfl (hb hby d10_31) rfl ((if0 _ _).trans (feq ((by decide) : ¬ ((1 : Int32) = (0 : Int32)))).1) ?_
    refine XS.aloadN X105.here hx rfl (hb hby d10_34) rfl rfl ?_
    exact k)
  have F108 := ((sV101.keep K104 List.not_mem_nil).keep K105 List.not_mem_nil)
  obtain ⟨T109, X109, e109, st109⟩ := getF X105 hx hZ hown (host := "") (Or.inl (own_i hw 28 rfl)) Via.refl e105 F108 (g := (mkF m 35 #[sR oa, sI 0, sI 0, sI 4, sI 0] [(.ref oa)])) rfl rfl (hb hby d10_35)
  refine own_to ?_ st109
  refine own_to (V := T109.setTop (mkF m 41 #[sR oa, sI 0, sI 0, sI 4, sI 0] [(.int 0), (.int 0), (.ref ua)])) ?_ fun t k => (by
    refine XS.iloadN X109.here hx rfl (hb hby d10_38) rfl ?_
    refine XS.iload X109.here hx rfl (hb hby d10_39) rfl ?_
    exact k)
  have F111 := ((sK101.keep K104 List.not_mem_nil).keep K105 List.not_mem_nil)
  obtain ⟨_, _, ⟨T110, L110, k110, n110⟩, -, X110', hS110', hg110, ⟨Lc110, hQ110, l110, y110, z110, hC110'⟩, st110⟩ := callSS X109 hx (y := own_mn9) hown (mvT hZ (own_i hw 89 rfl)) (mvT hZ (own_i hw 90 rfl)) (mvT hZ (own_i hw 91 rfl)) (mvT hZ (own_i hw 92 rfl)) (by decide) (backOfSH (W := 0) (own_rmnst4_0_0 l Z a0 hw hst [] ua sk101 c0 c1 c2 c3 h105 n0 Xo105 l0 l1 l2 l3 F111) hZ (own_i hw 92 rfl) (own_i hw 91 rfl) (by decide) (by decide) (own_hEL hw) Ch105.1) (g := (mkF m 41 #[sR oa, sI 0, sI 0, sI 4, sI 0] [(.int 0), (.int 0), (.ref ua)])) rfl (by rw [hml]; rfl) (argsL := [(.ref ua), (.int 0), (.int 0)]) (rest := []) (lenOf own_pd5 rfl) rfl (by show 2 * 0 + _ ≤ _; exact Nat.le_of_eq rfl) (hb hby d10_41) (fun _ _ => ⟨rfl, e109, (by decide : 0 + 2 ≤ _), (by decide : 0 + 4 ≤ _)⟩)
  dsimp only [own_R, Pt.U, Pt.locs, Pt.cells, Pt.slots] at X110' hS110' hg110 l110 y110 z110 st110 hQ110 hC110'
  subst y110 z110
  obtain ⟨X110, hS110, hZ110, hown110⟩ := rebS hS0 (own_hk e109 (Nat.le_trans (Nat.le_trans hk0 K104.1) K105.1)) X110' hS110' hg110 hZ hown
  obtain ⟨oo110, ou110, hv110, N110q, K110, g110_0⟩ := hQ110
  subst hv110
  obtain ⟨h110, e110⟩ : ∃ z, T110.heap = z := ⟨_, rfl⟩
  rw [e110] at K110 g110_0 hC110'
  have Cs110 : CHr Z consts_1 s.vm h105 T110.vm h110 := hC110'
  have Ch110 := Ch105.trans Cs110
  have Xo110 := Xo105.keep K110 all0
  have KK110 := KK105.trans K110 all0
  have hk110 : T110.heap.size ≤ h110.size := by rw [e110]; exact Nat.le_refl _
  have N110 : Fr n0 L110 := by rw [l110]; exact Fr.app N105 N110q
  refine own_to ?_ (fun t k => st110.trans k)
  refine own_to (V := T110.setTop (mkF m 57 #[sR oa, sI 0, sI 0, sI 4, sI 0] [(.ref oo110)])) ?_ fun t k => (by
    refine XS.goto X110.here hx rfl (pc0 := 44) (pc' := 57) rfl (hb hby d10_44) (by decide) (by decide) ?_
    exact k)
  exact own_retRH X110 hx hS110 (own_hk e110 hk110) (by rw [e110, hh]; exact Ch110.trans (CHv.at X110 hZ110 (own_hEL hw) Ch110.1)) hret (by decide) rfl hlk (hb hby d10_57) (by rw [e110]; exact (⟨oo110, ou110, rfl, N110, KK110, g110_0⟩)) (by decide) (by decide)
def own_Qtos00 (Z : State) (ow oa ua : Addr) (c0 c1 c2 c3 : Int32) (h0 : Heap) (n0 : Nat) (v : Option Value) (h : Heap) (L : List Loc) : Prop := (∃ (oo : Addr) (ou : Addr), v = some (.ref oo) ∧ Fr n0 L ∧ Keep h0 h [] ∧ (own_Str Z h oo ou ([] : List Int32)))
theorem own_ef_tos00 (m : MethodId) (ow : Addr)  : entryFrame m #[(.ref ow)] 1 = mkF m 0 #[sR ow] [] := by first | (simp [entryFrame, mkF, argsToLocals, Value.category]; done) | rfl
theorem own_rmtos00 (l : Launch) (Z : State) (a0 : Array Value) (hw : ∀ d ∈ tables_1, d.before a0 Z = true) (hst : own_St Z) (ws : List Jvm.Cond) (ow oa ua : Addr) (c0 c1 c2 c3 : Int32) (h0 : Heap) (n0 : Nat) (X00 : Old Z n0 h0) (l0 : ¬ c0 < 0 ∧ ¬ (255 : Int32) < c0) (l1 : ¬ c1 < 0 ∧ ¬ (255 : Int32) < c1) (l2 : ¬ c2 < 0 ∧ ¬ (255 : Int32) < c2) (l3 : ¬ c3 < 0 ∧ ¬ (255 : Int32) < c3) (hE : Exa Z h0 ow nm1) (f1 : Fld Z h0 ow nm1 "text" nm2 (.ref oa)) (f2 : Fld Z h0 ow nm1 "start" "I" (.int 0)) (f3 : Fld Z h0 ow nm1 "end" "I" (.int 0)) (hS : own_Str Z h0 oa ua ([c0, c1, c2, c3] : List Int32)) :
    MetFree l own_mn12 (head1 (Jvm.Cond.code own_mn12 prog_77_method_5_code 1 (Option.some (Jvm.ClassFile.FieldType.object "java/lang/String")) :: ws) (own_R 3 2 4 45)) (fun a U => a = #[(.ref ow)] ∧ Z.Warmed39 U.vm ∧ U.heap = h0 ∧ CHv Z consts_1 U.vm h0) (fun _ _ _ _ _ => True) (fun _ U o U' => ∃ v L, o = .returned v ∧ own_Qtos00 Z ow oa ua c0 c1 c2 c3 h0 n0 v U'.heap L ∧ CHr Z consts_1 U.vm U.heap U'.vm U'.heap ∧ ReturnedEndW U o U' L (own_R 3 2 4 45).cells (own_R 3 2 4 45).slots) := by
  refine MetFree.of_bodySF (plainFor_of_name own_pn4) hisR ?_
  intro p e s m args below meth c s₁ Bd hml0 hP hK
  obtain ⟨rfl, hZ, hh, hCH⟩ := hP
  have hx := Bd.exec
  have hby := Bd.bytes
  have hret := Bd.returns
  have hlk : meth.locks = false := BodyLoose.notSynchronized Bd
  have hml : c.maxLocals = 1 := hml0
  have hown : s.vm.findClass "com/example/capstrike/capstrike/TermText$Written" = some m.cls := findClass_of_methodNamed Bd.named
  have hnm := (name_of_methodNamed Bd.named Bd.method).1
  have X0 : Stand p l e (own_R 3 2 4 45) (s.setVm s.vm) m #[(.ref ow)] below meth c s₁ [] 0 0 := Stand.of_body Bd
  have e0 : s₁.heap = h0 := by rw [← hh, Bd.state]; rfl
  have N0 := Fr.nil n0
  have KK0 : Keep h0 h0 [] := Keep.refl h0 _
  have hS0 : s.Since s.vm 0 := (State.WarmedH.refl s).since 0
  have hk0 : 0 ≤ h0.size := Nat.zero_le _
  have Ch0 : CHr Z consts_1 s.vm h0 s.vm h0 := CHr.refl hCH
  refine own_startH (own_Qtos00 Z ow oa ua c0 c1 c2 c3 h0 n0) ?_
  refine own_to (V := s₁.setTop (mkF m 0 #[sR ow] [])) ?_ (fun t k => castTop (own_ef_tos00 m ow ) k)
  obtain ⟨⟨G1, O2, P5⟩, ⟨G3, O4, rG3⟩, -⟩ := id hst
  refine own_to (V := s₁.setTop (mkF m 1 #[sR ow] [(.ref ow)])) ?_ fun t k => (by
    refine XS.aloadN X0.here hx rfl (hb hby d11_0) rfl rfl ?_
    exact k)
  obtain ⟨T101, X101, e101, st101⟩ := getF X0 hx hZ hown (host := "") (Or.inl (own_i hw 50 rfl)) Via.refl e0 f1 (g := (mkF m 1 #[sR ow] [(.ref ow)])) rfl rfl (hb hby d11_1)
  refine own_to ?_ st101
  refine own_to (V := T101.setTop (mkF m 5 #[sR ow] [(.ref ow), (.ref oa)])) ?_ fun t k => (by
    refine XS.aloadN X101.here hx rfl (hb hby d11_4) rfl rfl ?_
    exact k)
  obtain ⟨T102, X102, e102, st102⟩ := getF X101 hx hZ hown (host := "") (Or.inl (own_i hw 52 rfl)) Via.refl e101 f2 (g := (mkF m 5 #[sR ow] [(.ref ow), (.ref oa)])) rfl rfl (hb hby d11_5)
  refine own_to ?_ st102
  refine own_to (V := T102.setTop (mkF m 9 #[sR ow] [(.ref ow), (.int 0), (.ref oa)])) ?_ fun t k => (by
    refine XS.aloadN X102.here hx rfl (hb hby d11_8) rfl rfl ?_
    exact k)
  obtain ⟨T103, X103, e103, st103⟩ := getF X102 hx hZ hown (host := "") (Or.inl (own_i hw 54 rfl)) Via.refl e102 f3 (g := (mkF m 9 #[sR ow] [(.ref ow), (.int 0), (.ref oa)])) rfl rfl (hb hby d11_9)
  refine own_to ?_ st103
  obtain ⟨cq104, kq104, q104a, q104b, q104c⟩ := isOf hZ e103 hS.1
  obtain ⟨_, _, ⟨T104, L104, k104, n104⟩, -, X104', hS104', hg104, ⟨Lc104, hQ104, l104, y104, z104, hC104'⟩, st104⟩ := X103.virtualBackS hx (y := own_mn10) (z := own_mn10) hown (mvT hZ (own_i hw 61 rfl)) (mvT hZ (own_i hw 62 rfl)) (notFace_of_selects (args := #[]) (mvT hZ (own_i hw 64 rfl))) (mvT hZ (own_i hw 64 rfl)) (mvT hZ (own_i hw 63 rfl)) (by decide) (backOfSH (W := 0) (own_rmsub4_0_0 l Z a0 hw hst [] oa ua c0 c1 c2 c3 h0 n0 X00 l0 l1 l2 l3 hS) hZ (own_i hw 65 rfl) (own_i hw 3 rfl) (by decide) (by decide) (own_hEL hw) Ch0.1) q104a q104c (g := (mkF m 12 #[sR ow] [(.int 0), (.int 0), (.ref oa)])) rfl (by rw [hml]; rfl) (Steps.refl _) (argsL := [(.int 0), (.int 0)]) (rest := []) (lenOf own_pd6 rfl) rfl (by show 2 * 0 + _ ≤ _; exact Nat.le_of_eq rfl) (hb hby d11_12) (fun _ _ => ⟨rfl, e103, (by decide : 0 + 2 ≤ _), (by decide : 0 + 4 ≤ _)⟩)
  dsimp only [own_R, Pt.U, Pt.locs, Pt.cells, Pt.slots] at X104' hS104' hg104 l104 y104 z104 st104 hQ104 hC104'
  subst y104 z104
  obtain ⟨X104, hS104, hZ104, hown104⟩ := rebS hS0 (own_hk e103 hk0) X104' hS104' hg104 hZ hown
  obtain ⟨oo104, ou104, hv104, N104q, K104, g104_0⟩ := hQ104
  subst hv104
  obtain ⟨h104, e104⟩ : ∃ z, T104.heap = z := ⟨_, rfl⟩
  rw [e104] at K104 g104_0 hC104'
  have Cs104 : CHr Z consts_1 s.vm h0 T104.vm h104 := hC104'
  have Ch104 := Ch0.trans Cs104
  have Xo104 := X00.keep K104 all0
  have KK104 := KK0.trans K104 all0
  have hk104 : T104.heap.size ≤ h104.size := by rw [e104]; exact Nat.le_refl _
  have N104 : Fr n0 L104 := by rw [l104]; exact Fr.app N0 N104q
  refine own_to ?_ (fun t k => st104.trans k)
  exact own_retRH X104 hx hS104 (own_hk e104 hk104) (by rw [e104, hh]; exact Ch104.trans (CHv.at X104 hZ104 (own_hEL hw) Ch104.1)) hret (by decide) rfl hlk (hb hby d11_15) (by rw [e104]; exact (⟨oo104, ou104, rfl, N104, KK104, g104_0⟩)) (by decide) (by decide)
def own_Qcrb4_0_1 (Z : State) (ob : Addr) (kb : ClassId) (d0 d1 d2 d3 : Int32) (h0 : Heap) (n0 : Nat) (v : Option Value) (h : Heap) (L : List Loc) : Prop := (∃ (oo : Addr) (ko : ClassId), v = some (.ref oo) ∧ Fr n0 L ∧ Keep h0 h [] ∧ (Arv Z h oo ko .byte (1 : Int32) [(.int d0)] (.int (0 : Int32))) ∧ (h0.size ≤ oo))
theorem own_ef_crb4_0_1 (m : MethodId) (ob : Addr)  : entryFrame m #[(.ref ob), (.int 0), (.int 1)] 5 = mkF m 0 #[sR ob, sI 0, sI 1, .unset, .unset] [] := by first | (simp [entryFrame, mkF, argsToLocals, Value.category]; done) | rfl
theorem own_rmcrb4_0_1 (l : Launch) (Z : State) (a0 : Array Value) (hw : ∀ d ∈ tables_1, d.before a0 Z = true) (hst : own_St Z) (ws : List Jvm.Cond) (ob : Addr) (kb : ClassId) (d0 d1 d2 d3 : Int32) (h0 : Heap) (n0 : Nat) (X00 : Old Z n0 h0) (hA : Arv Z h0 ob kb .byte (4 : Int32) [(.int d0), (.int d1), (.int d2), (.int d3)] (.int (0 : Int32))) :
    own_MF l own_mn13 jdk_65_method_133_code 5 (Option.some (Jvm.ClassFile.FieldType.array Jvm.ClassFile.FieldType.byte)) ws (own_R 1 1 1 18) #[(.ref ob), (.int 0), (.int 1)] Z h0 (own_Qcrb4_0_1 Z ob kb d0 d1 d2 d3 h0 n0) := by
  refine own_body (plainFor_of_name own_pn0) (fun m => own_ef_crb4_0_1 m ob ) ?_
  intro p e s m below meth c s₁ hx hby hret hlk hml hZ hown hnm hh X0 e0
  have N0 := Fr.nil n0
  have KK0 : Keep h0 h0 [] := Keep.refl h0 _
  obtain ⟨⟨G1, O2, P5⟩, ⟨G3, O4, rG3⟩, -⟩ := id hst
  refine own_to (V := s₁.setTop (mkF m 2 #[sR ob, sI 0, sI 1, .unset, .unset] [(.int 1), (.int 0)])) ?_ fun t k => (by
    refine XS.iloadN X0.here hx rfl (hb hby d12_0) rfl ?_
    refine XS.iloadN X0.here hx rfl (hb hby d12_1) rfl ?_
    exact k)
  obtain ⟨_, T101, h101, L101, Lc101, X101, e101, hQ101, l101, st101⟩ := own_cS (own_rmckl l Z a0 hw hst [] (0 : Int32) (1 : Int32) h0 n0 X00 (by first | assumption | decide | omega | (simp; done) | rfl)) X0 hx hZ hown e0 (own_i hw 101 rfl) (own_i hw 102 rfl) (own_i hw 96 rfl) (own_i hw 103 rfl) (by decide) (g := (mkF m 2 #[sR ob, sI 0, sI 1, .unset, .unset] [(.int 1), (.int 0)])) rfl (by rw [hml]; rfl) (argsL := [(.int 0), (.int 1)]) (rest := []) (lenOf own_pd7 rfl) rfl rfl (hb hby d12_2) (W := 0) (Nat.le_of_eq rfl) (K := 0) (N := 0) rfl rfl (by decide) (by decide) (by decide) (by decide)
  obtain ⟨hv101, N101q, K101⟩ := hQ101
  subst hv101
  have Xo101 := X00.keep K101 all0
  have KK101 := KK0.trans K101 all0
  have N101 := l101 _ N0 N101q
  refine own_to ?_ st101
  refine own_to (V := T101.setTop (mkF m 10 #[sR ob, sI 0, sI 1, sI 1, .unset] [(.int 1)])) ?_ fun t k => (by
    refine XS.iloadN X101.here hx rfl (hb hby d12_5) rfl ?_
    refine XS.iloadN X101.here hx rfl (hb hby d12_6) rfl ?_
    refine XS.isub X101.here hx rfl (hb hby d12_7) rfl ?_
    refine XS.istoreN X101.here hx rfl (hb hby d12_8) rfl (l' := #[sR ob, sI 0, sI 1, sI 1, .unset]) rfl ?_
    refine XS.iloadN X101.here hx rfl (hb hby d12_9) rfl ?_
    exact k)
  obtain ⟨T102, h102, k102, X102, e102, E102, A102, st102⟩ := newP X101 hx hZ (own_i hw 19 rfl) e101 (g := (mkF m 10 #[sR ob, sI 0, sI 1, sI 1, .unset] [(.int 1)])) rfl (hb hby d12_10) rfl (by decide) (cap := 1) (by decide) (by decide) (by decide) (by decide)
  obtain ⟨b102, g102⟩ : ∃ z, z = h101.size := ⟨_, rfl⟩
  rw [← g102] at A102 st102
  have Xo102 := Xo101.ext E102
  have KK102 := KK101.ext E102
  have ge_b102 := Nat.le_trans (own_ole Xo101) (Nat.le_of_eq g102.symm)
  have sz_b102 := Nat.le_trans KK101.1 (Nat.le_of_eq g102.symm)
  have V102 : Arv Z h102 b102 k102 .byte (1 : Int32) [(.int 0)] (.int (0 : Int32)) := (Arv.new A102 (by decide)).pad (pad_rep [] (.int (0 : Int32)) 1)
  refine own_to ?_ st102
  refine own_to (V := T102.setTop (mkF m 20 #[sR ob, sI 0, sI 1, sI 1, sR b102] [(.ref ob), (.int 0), (.ref b102), (.int 0), (.ref ob)])) ?_ fun t k => (by
    refine XS.astore X102.here hx rfl (hb hby d12_12) rfl rfl (l' := #[sR ob, sI 0, sI 1, sI 1, sR b102]) rfl ?_
    refine XS.aloadN X102.here hx rfl (hb hby d12_14) rfl rfl ?_
    refine XS.iloadN X102.here hx rfl (hb hby d12_15) rfl ?_
    refine XS.aload X102.here hx rfl (hb hby d12_16) rfl rfl ?_
    refine XS.iconst X102.here hx rfl (hb hby d12_18) ?_
    refine XS.aloadN X102.here hx rfl (hb hby d12_19) rfl rfl ?_
    exact k)
  have F103 := ((hA.keep K101 List.not_mem_nil).ext E102)
  obtain ⟨cl104, Ar104, q104, S104, M104, H104, G104⟩ := id F103
  refine own_to (V := T102.setTop (mkF m 21 #[sR ob, sI 0, sI 1, sI 1, sR b102] [(.int 4), (.int 0), (.ref b102), (.int 0), (.ref ob)])) ?_ (fun t k => X102.arraylength hx (by rw [e102]; exact Ar104.1) (State.isArrayOf_alike hZ.alike Ar104.2.1) (g := (mkF m 20 #[sR ob, sI 0, sI 1, sI 1, sR b102] [(.ref ob), (.int 0), (.ref b102), (.int 0), (.ref ob)])) rfl rfl (hb hby d12_20) t (by rw [len_of S104 M104]; exact k))
  refine own_to (V := T102.setTop (mkF m 24 #[sR ob, sI 0, sI 1, sI 1, sR b102] [(.int 1), (.int 4), (.int 0), (.ref b102), (.int 0), (.ref ob)])) ?_ fun t k => (by
    refine XS.iloadN X102.here hx rfl (hb hby d12_21) rfl ?_
    refine XS.isub X102.here hx rfl (hb hby d12_22) rfl ?_
    refine XS.iloadN X102.here hx rfl (hb hby d12_23) rfl ?_
    exact k)
  obtain ⟨_, T105, h105, L105, Lc105, X105, e105, hQ105, l105, st105⟩ := own_cS (own_rmmamin l Z a0 hw hst [] (4 : Int32) (1 : Int32) h102 n0 Xo102 ) X102 hx hZ hown e102 (own_i hw 104 rfl) (own_i hw 32 rfl) (own_i hw 33 rfl) (own_i hw 34 rfl) (by decide) (g := (mkF m 24 #[sR ob, sI 0, sI 1, sI 1, sR b102] [(.int 1), (.int 4), (.int 0), (.ref b102), (.int 0), (.ref ob)])) rfl (by rw [hml]; rfl) (argsL := [(.int 4), (.int 1)]) (rest := [(.int 0), (.ref b102), (.int 0), (.ref ob)]) (lenOf own_pd8 rfl) rfl rfl (hb hby d12_24) (W := 4) (Nat.le_of_eq rfl) (K := 1) (N := 1) rfl rfl (by decide) (by decide) (by decide) (by decide)
  rcases hQ105 with ⟨hv105, N105q, K105, g105_0⟩ | ⟨hv105, N105q, K105, g105_0⟩
  ·skip
   subst hv105
   have Xo105 := Xo102.keep K105 all0
   have KK105 := KK102.trans K105 all0
   have N105 := l105 _ N101 N105q
   exact absurd (by decide) g105_0
  ·skip
   subst hv105
   have Xo105 := Xo102.keep K105 all0
   have KK105 := KK102.trans K105 all0
   have N105 := l105 _ N101 N105q
   refine own_to ?_ st105
   have F107 := (F103.keep K105 List.not_mem_nil)
   have F108 := (V102.keep K105 List.not_mem_nil)
   obtain ⟨T106, h106, L106, X106, e106, N106, K106, V106', st106⟩ := cpA X105 hx hZ hown (own_i hw 105 rfl) (own_i hw 108 rfl) (own_i hw 106 rfl) (own_i hw 107 rfl) e105 (sp := (0 : Int32)) (dp := (0 : Int32)) (nn := (1 : Int32)) (us := [(.int d0)]) F107 F108 (Or.inl ⟨rfl, rfl⟩) (by decide) (by decide) (by decide) (by decide) (by decide) rfl (Nat.le_of_ble_eq_true rfl) N105 ge_b102 (g := (mkF m 27 #[sR ob, sI 0, sI 1, sI 1, sR b102] [(.int 1), (.int 0), (.ref b102), (.int 0), (.ref ob)])) rfl (by rw [hml]; rfl) (rest := []) rfl (hb hby d12_27) (by decide) (W := 0) (by show 2 * 0 + _ ≤ _; exact Nat.le_of_eq rfl) (by decide)
   have Xo106 := Xo105.keep K106 (allS ge_b102 all0)
   have KK106 := KK105.trans K106 (allS (Or.inr sz_b102) all0)
   have V106 : Arv Z h106 b102 k102 .byte (1 : Int32) [(.int d0)] (.int (0 : Int32)) := V106'
   refine own_to ?_ st106
   refine own_to (V := T106.setTop (mkF m 32 #[sR ob, sI 0, sI 1, sI 1, sR b102] [(.ref b102)])) ?_ fun t k => (by
     refine XS.aload X106.here hx rfl (hb hby d12_30) rfl rfl ?_
     exact k)
   exact own_retR X106 hx hret (by decide) rfl hlk (hb hby d12_32) (by rw [e106]; exact (⟨b102, k102, rfl, N106, KK106, V106, sz_b102⟩)) (by decide) (by decide)
def own_Qcor4_0_1 (Z : State) (ob : Addr) (kb : ClassId) (d0 d1 d2 d3 : Int32) (h0 : Heap) (n0 : Nat) (v : Option Value) (h : Heap) (L : List Loc) : Prop := (∃ (oo : Addr) (ko : ClassId), v = some (.ref oo) ∧ Fr n0 L ∧ Keep h0 h [] ∧ (Arv Z h oo ko .byte (1 : Int32) [(.int d0)] (.int (0 : Int32))) ∧ (h0.size ≤ oo))
theorem own_ef_cor4_0_1 (m : MethodId) (ob : Addr)  : entryFrame m #[(.ref ob), (.int 0), (.int 1)] 3 = mkF m 0 #[sR ob, sI 0, sI 1] [] := by first | (simp [entryFrame, mkF, argsToLocals, Value.category]; done) | rfl
theorem own_rmcor4_0_1 (l : Launch) (Z : State) (a0 : Array Value) (hw : ∀ d ∈ tables_1, d.before a0 Z = true) (hst : own_St Z) (ws : List Jvm.Cond) (ob : Addr) (kb : ClassId) (d0 d1 d2 d3 : Int32) (h0 : Heap) (n0 : Nat) (X00 : Old Z n0 h0) (hA : Arv Z h0 ob kb .byte (4 : Int32) [(.int d0), (.int d1), (.int d2), (.int d3)] (.int (0 : Int32))) :
    own_MF l own_mn14 jdk_65_method_132_code 3 (Option.some (Jvm.ClassFile.FieldType.array Jvm.ClassFile.FieldType.byte)) ws (own_R 2 1 1 34) #[(.ref ob), (.int 0), (.int 1)] Z h0 (own_Qcor4_0_1 Z ob kb d0 d1 d2 d3 h0 n0) := by
  refine own_body (plainFor_of_name own_pn0) (fun m => own_ef_cor4_0_1 m ob ) ?_
  intro p e s m below meth c s₁ hx hby hret hlk hml hZ hown hnm hh X0 e0
  have N0 := Fr.nil n0
  have KK0 : Keep h0 h0 [] := Keep.refl h0 _
  obtain ⟨⟨G1, O2, P5⟩, ⟨G3, O4, rG3⟩, -⟩ := id hst
  refine own_to (V := s₁.setTop (mkF m 6 #[sR ob, sI 0, sI 1] [(.ref ob), (.int 1)])) ?_ fun t k => (by
    refine XS.iloadN X0.here hx rfl (hb hby d13_0) rfl ?_
    refine XS.ifNo X0.here hx rfl (hb hby d13_1) rfl ((if0 _ _).trans (teq ((by decide) : (0 : Int32) = (0 : Int32))).2) ?_
    refine XS.iloadN X0.here hx rfl (hb hby d13_4) rfl ?_
    refine XS.aloadN X0.here hx rfl (hb hby d13_5) rfl rfl ?_
    exact k)
  obtain ⟨cl101, Ar101, q101, S101, M101, H101, G101⟩ := id hA
  refine own_to (V := s₁.setTop (mkF m 7 #[sR ob, sI 0, sI 1] [(.int 4), (.int 1)])) ?_ (fun t k => X0.arraylength hx (by rw [e0]; exact Ar101.1) (State.isArrayOf_alike hZ.alike Ar101.2.1) (g := (mkF m 6 #[sR ob, sI 0, sI 1] [(.ref ob), (.int 1)])) rfl rfl (hb hby d13_6) t (by rw [len_of S101 M101]; exact k))
  refine own_to (V := s₁.setTop (mkF m 13 #[sR ob, sI 0, sI 1] [(.int 1), (.int 0), (.ref ob)])) ?_ fun t k => (by
    refine XS.icmpNo X0.here hx rfl (hb hby d13_7) rfl (feq ((by decide) : ¬ ((1 : Int32) = (4 : Int32)))).1 ?_
    refine XS.aloadN X0.here hx rfl (hb hby d13_10) rfl rfl ?_
    refine XS.iloadN X0.here hx rfl (hb hby d13_11) rfl ?_
    refine XS.iloadN X0.here hx rfl (hb hby d13_12) rfl ?_
    exact k)
  obtain ⟨_, T102, h102, L102, Lc102, X102, e102, hQ102, l102, st102⟩ := own_cS (own_rmcrb4_0_1 l Z a0 hw hst [] ob kb d0 d1 d2 d3 h0 n0 X00 hA) X0 hx hZ hown e0 (own_i hw 98 rfl) (own_i hw 99 rfl) (own_i hw 96 rfl) (own_i hw 100 rfl) (by decide) (g := (mkF m 13 #[sR ob, sI 0, sI 1] [(.int 1), (.int 0), (.ref ob)])) rfl (by rw [hml]; rfl) (argsL := [(.ref ob), (.int 0), (.int 1)]) (rest := []) (lenOf own_pd9 rfl) rfl rfl (hb hby d13_13) (W := 0) (Nat.le_of_eq rfl) (K := 1) (N := 1) rfl rfl (by decide) (by decide) (by decide) (by decide)
  obtain ⟨oo102, ko102, hv102, N102q, K102, g102_0, g102_1⟩ := hQ102
  subst hv102
  have Xo102 := X00.keep K102 all0
  have KK102 := KK0.trans K102 all0
  have N102 := l102 _ N0 N102q
  have ge_oo102 := Nat.le_trans (own_ole X00) g102_1
  have sz_oo102 := Nat.le_trans KK0.1 g102_1
  refine own_to ?_ st102
  exact own_retR X102 hx hret (by decide) rfl hlk (hb hby d13_16) (by rw [e102]; exact (⟨oo102, ko102, rfl, N102, KK102, g102_0, sz_oo102⟩)) (by decide) (by decide)
def own_Qnst4_0_1 (Z : State) (ob : Addr) (kb : ClassId) (c0 c1 c2 c3 : Int32) (h0 : Heap) (n0 : Nat) (v : Option Value) (h : Heap) (L : List Loc) : Prop := (∃ (oo : Addr) (ou : Addr), v = some (.ref oo) ∧ Fr n0 L ∧ Keep h0 h [] ∧ (own_Str Z h oo ou ([c0] : List Int32)))
theorem own_ef_nst4_0_1 (m : MethodId) (ob : Addr)  : entryFrame m #[(.ref ob), (.int 0), (.int 1)] 3 = mkF m 0 #[sR ob, sI 0, sI 1] [] := by first | (simp [entryFrame, mkF, argsToLocals, Value.category]; done) | rfl
theorem own_rmnst4_0_1 (l : Launch) (Z : State) (a0 : Array Value) (hw : ∀ d ∈ tables_1, d.before a0 Z = true) (hst : own_St Z) (ws : List Jvm.Cond) (ob : Addr) (kb : ClassId) (c0 c1 c2 c3 : Int32) (h0 : Heap) (n0 : Nat) (X00 : Old Z n0 h0) (l0 : ¬ c0 < 0 ∧ ¬ (255 : Int32) < c0) (l1 : ¬ c1 < 0 ∧ ¬ (255 : Int32) < c1) (l2 : ¬ c2 < 0 ∧ ¬ (255 : Int32) < c2) (l3 : ¬ c3 < 0 ∧ ¬ (255 : Int32) < c3) (hA : Arv Z h0 ob kb .byte (4 : Int32) [(.int (StrChars.lo8 c0)), (.int (StrChars.lo8 c1)), (.int (StrChars.lo8 c2)), (.int (StrChars.lo8 c3))] (.int (0 : Int32))) :
    own_MF l own_mn9 jdk_43_method_47_code 3 (Option.some (Jvm.ClassFile.FieldType.object "java/lang/String")) ws (own_R 3 2 5 50) #[(.ref ob), (.int 0), (.int 1)] Z h0 (own_Qnst4_0_1 Z ob kb c0 c1 c2 c3 h0 n0) := by
  refine own_body (plainFor_of_name own_pn5) (fun m => own_ef_nst4_0_1 m ob ) ?_
  intro p e s m below meth c s₁ hx hby hret hlk hml hZ hown hnm hh X0 e0
  have N0 := Fr.nil n0
  have KK0 : Keep h0 h0 [] := Keep.refl h0 _
  obtain ⟨⟨G1, O2, P5⟩, ⟨G3, O4, rG3⟩, -⟩ := id hst
  refine own_to (V := s₁.setTop (mkF m 7 #[sR ob, sI 0, sI 1] [])) ?_ fun t k => (by
    refine XS.iloadN X0.here hx rfl (hb hby d9_0) rfl ?_
    refine XS.ifYes X0.here hx rfl (pc0 := 1) (pc' := 7) rfl (hb hby d9_1) rfl ((if0 _ _).trans (feq ((by decide) : ¬ ((1 : Int32) = (0 : Int32)))).2) (by decide) (by decide) ?_
    exact k)
  obtain ⟨T101, h101, X101, e101, E101, A101, D101, U101, st101⟩ := newO X0 hx hZ hown (own_i hw 93 rfl) (own_i hw 2 rfl) (own_i hw 3 rfl) e0 (g := (mkF m 7 #[sR ob, sI 0, sI 1] [])) rfl (hb hby d9_7) (by decide) (by decide)
  obtain ⟨b101, g101⟩ : ∃ z, z = h0.size := ⟨_, rfl⟩
  rw [← g101] at A101 D101 U101 st101
  have Xo101 := X00.ext E101
  have KK101 := KK0.ext E101
  have ge_b101 := Nat.le_trans (own_ole X00) (Nat.le_of_eq g101.symm)
  have sz_b101 := Nat.le_trans KK0.1 (Nat.le_of_eq g101.symm)
  have Fi101_27 : Fld Z h101 b101 nm0 "coder" "B" (.int 0) := D101 (Or.inr (own_i hw 27 rfl)) (ty := .byte) (by decide)
  have Fi101_29 : Fld Z h101 b101 nm0 "value" "[B" .null := D101 (Or.inr (own_i hw 29 rfl)) (ty := (.array .byte)) (by decide)
  refine own_to ?_ st101
  refine own_to (V := T101.setTop (mkF m 16 #[sR ob, sI 0, sI 1] [(.int 1), (.int 0), (.ref ob), (.ref b101), (.ref b101)])) ?_ fun t k => (by
    refine XS.dup X101.here hx rfl (hb hby d9_10) rfl rfl ?_
    refine XS.aloadN X101.here hx rfl (hb hby d9_11) rfl rfl ?_
    refine XS.iloadN X101.here hx rfl (hb hby d9_12) rfl ?_
    refine XS.iloadN X101.here hx rfl (hb hby d9_13) rfl ?_
    refine XS.iloadN X101.here hx rfl (hb hby d9_14) rfl ?_
    refine XS.iadd X101.here hx rfl (hb hby d9_15) rfl ?_
    exact k)
  have F103 := (hA.ext E101)
  obtain ⟨_, T102, h102, L102, Lc102, X102, e102, hQ102, l102, st102⟩ := own_cS (own_rmcor4_0_1 l Z a0 hw hst [] ob kb (StrChars.lo8 c0) (StrChars.lo8 c1) (StrChars.lo8 c2) (StrChars.lo8 c3) h101 n0 Xo101 F103) X101 hx hZ hown e101 (own_i hw 94 rfl) (own_i hw 95 rfl) (own_i hw 96 rfl) (own_i hw 97 rfl) (by decide) (g := (mkF m 16 #[sR ob, sI 0, sI 1] [(.int 1), (.int 0), (.ref ob), (.ref b101), (.ref b101)])) rfl (by rw [hml]; rfl) (argsL := [(.ref ob), (.int 0), (.int 1)]) (rest := [(.ref b101), (.ref b101)]) (lenOf own_pd9 rfl) rfl rfl (hb hby d9_16) (W := 2) (Nat.le_of_eq rfl) (K := 2) (N := 5) rfl rfl (by decide) (by decide) (by decide) (by decide)
  obtain ⟨oo102, ko102, hv102, N102q, K102, g102_0, g102_1⟩ := hQ102
  subst hv102
  have Xo102 := Xo101.keep K102 all0
  have KK102 := KK101.trans K102 all0
  have N102 := l102 _ N0 N102q
  have ge_oo102 := Nat.le_trans (own_ole Xo101) g102_1
  have sz_oo102 := Nat.le_trans KK101.1 g102_1
  refine own_to ?_ st102
  refine own_to (V := T102.setTop (mkF m 20 #[sR ob, sI 0, sI 1] [(.int 0), (.ref oo102), (.ref b101), (.ref b101)])) ?_ fun t k => (by
    refine XS.iconst X102.here hx rfl (hb hby d9_19) ?_
    exact k)
  have F105 := (A101.keep K102)
  have F106 := (Fi101_29.keep K102 List.not_mem_nil)
  have F107 := (Fi101_27.keep K102 List.not_mem_nil)
  obtain ⟨_, T104, h104, L104, Lc104, X104, e104, hQ104, l104, st104⟩ := own_cI (own_rmsibb l Z a0 hw hst [] b101 oo102 h102 n0 Xo102 F105 F106 F107 ge_b101) X102 hx hZ hown e102 rfl (own_i hw 109 rfl) (own_i hw 110 rfl) (own_i hw 3 rfl) (own_i hw 111 rfl) (by decide) (g := (mkF m 20 #[sR ob, sI 0, sI 1] [(.int 0), (.ref oo102), (.ref b101), (.ref b101)])) rfl (by rw [hml]; rfl) (argsL := [(.ref oo102), (.int 0)]) (rest := [(.ref b101)]) (lenOf own_pd10 rfl) rfl rfl (hb hby d9_20) (W := 1) (Nat.le_of_eq rfl) (K := 2) (N := 5) rfl rfl (by decide) (by decide) (by decide) (by decide)
  obtain ⟨hv104, N104q, K104, g104_0, g104_1⟩ := hQ104
  subst hv104
  have Xo104 := Xo102.keep K104 (allS ge_b101 all0)
  have KK104 := KK102.trans K104 (allS (Or.inr sz_b101) all0)
  have N104 := l104 _ N102 N104q
  refine own_to ?_ st104
  have F109 := (F105.keep K104)
  have F110 := (g102_0.keep K104 (own_nmS (Ne.symm (Nat.ne_of_lt (Nat.lt_of_lt_of_le A101.lt g102_1))) own_nm0))
  have Fz108 : own_Str Z h104 b101 oo102 ([c0] : List Int32) := own_mkLit F109 g104_0 g104_1 F110 rfl (own_allS l0 own_all0) rfl (Nat.le_of_ble_eq_true rfl)
  exact own_retR X104 hx hret (by decide) rfl hlk (hb hby d9_23) (by rw [e104]; exact (⟨b101, oo102, rfl, N104, KK104, Fz108⟩)) (by decide) (by decide)
def own_Qsub4_0_1 (Z : State) (oa ua : Addr) (c0 c1 c2 c3 : Int32) (h0 : Heap) (n0 : Nat) (v : Option Value) (h : Heap) (L : List Loc) : Prop := (∃ (oo : Addr) (ou : Addr), v = some (.ref oo) ∧ Fr n0 L ∧ Keep h0 h [] ∧ (own_Str Z h oo ou ([c0] : List Int32)))
theorem own_ef_sub4_0_1 (m : MethodId) (oa : Addr)  : entryFrame m #[(.ref oa), (.int 0), (.int 1)] 5 = mkF m 0 #[sR oa, sI 0, sI 1, .unset, .unset] [] := by first | (simp [entryFrame, mkF, argsToLocals, Value.category]; done) | rfl
theorem own_rmsub4_0_1 (l : Launch) (Z : State) (a0 : Array Value) (hw : ∀ d ∈ tables_1, d.before a0 Z = true) (hst : own_St Z) (ws : List Jvm.Cond) (oa ua : Addr) (c0 c1 c2 c3 : Int32) (h0 : Heap) (n0 : Nat) (X00 : Old Z n0 h0) (l0 : ¬ c0 < 0 ∧ ¬ (255 : Int32) < c0) (l1 : ¬ c1 < 0 ∧ ¬ (255 : Int32) < c1) (l2 : ¬ c2 < 0 ∧ ¬ (255 : Int32) < c2) (l3 : ¬ c3 < 0 ∧ ¬ (255 : Int32) < c3) (hS : own_Str Z h0 oa ua ([c0, c1, c2, c3] : List Int32)) :
    own_MF l own_mn10 jdk_42_method_92_code 5 (Option.some (Jvm.ClassFile.FieldType.object "java/lang/String")) ws (own_R 4 2 5 64) #[(.ref oa), (.int 0), (.int 1)] Z h0 (own_Qsub4_0_1 Z oa ua c0 c1 c2 c3 h0 n0) := by
  refine own_body (plainFor_of_name own_pn2) (fun m => own_ef_sub4_0_1 m oa ) ?_
  intro p e s m below meth c s₁ hx hby hret hlk hml hZ hown hnm hh X0 e0
  have N0 := Fr.nil n0
  have KK0 : Keep h0 h0 [] := Keep.refl h0 _
  obtain ⟨⟨G1, O2, P5⟩, ⟨G3, O4, rG3⟩, -⟩ := id hst
  obtain ⟨sk101, sE101, sV101, sC101, sK101', sb101⟩ := own_Str.latinL hS (own_lat2 (own_allS l0 (own_allS l1 (own_allS l2 (own_allS l3 own_all0)))))
  have sK101 : Arv Z h0 ua sk101 .byte (4 : Int32) [(.int (StrChars.lo8 c0)), (.int (StrChars.lo8 c1)), (.int (StrChars.lo8 c2)), (.int (StrChars.lo8 c3))] (.int (0 : Int32)) := sK101'
  refine own_to (V := s₁.setTop (mkF m 1 #[sR oa, sI 0, sI 1, .unset, .unset] [(.ref oa)])) ?_ fun t k => (by
    refine XS.aloadN X0.here hx rfl (hb hby d10_0) rfl rfl ?_
    exact k)
  obtain ⟨sE103, sd103, sN103, sk103, sv103, sV103, sC103, sK103, sc103, sb103, sl103⟩ := id hS
  obtain ⟨cq102, kq102, q102a, q102b, q102c⟩ := isOf hZ e0 sE101
  obtain ⟨_, _, ⟨T102, L102, k102, n102⟩, -, X102, ⟨Lc102, hQ102, l102, y102, z102⟩, st102⟩ := X0.virtualBack hx (y := own_mn11) (z := own_mn11) hown (mvT hZ (own_i hw 66 rfl)) (mvT hZ (own_i hw 67 rfl)) (notFace_of_selects (args := #[]) (mvT hZ (own_i hw 69 rfl))) (mvT hZ (own_i hw 69 rfl)) (mvT hZ (own_i hw 68 rfl)) (by decide) (StrChars.Road.lenW (W := 0) hZ (own_hln hw) (kI := 4) (own_i hw 2 rfl) sE103 sV103 sC103 sK103 sc103 sb103 (O2.ext X00.2) P5 sl103 (by decide) (by decide)) q102a q102c (g := (mkF m 1 #[sR oa, sI 0, sI 1, .unset, .unset] [(.ref oa)])) rfl (by rw [hml]; rfl) (Steps.refl _) (argsL := []) (rest := []) (lenOf own_pd2 rfl) rfl (by show 2 * 0 + _ ≤ _; exact Nat.le_of_eq rfl) (hb hby d10_1) (fun _ _ => ⟨rfl, e0, (by decide : 0 + 0 ≤ _), (by decide : 0 + 0 ≤ _)⟩)
  dsimp only [own_R, Pt.U, Pt.locs, Pt.cells, Pt.slots] at X102 l102 y102 z102 st102 hQ102
  subst y102 z102
  obtain ⟨hv102, hL102, hh102⟩ := hQ102
  subst hL102
  have N102 : Fr n0 L102 := by rw [l102]; exact Fr.app N0 (Fr.nil n0)
  subst hv102
  refine own_to ?_ (fun t k => st102.trans k)
  refine own_to (V := T102.setTop (mkF m 8 #[sR oa, sI 0, sI 1, sI 4, .unset] [(.int 4), (.int 1), (.int 0)])) ?_ fun t k => (by
    refine XS.istoreN X102.here hx rfl (hb hby d10_4) rfl (l' := #[sR oa, sI 0, sI 1, sI 4, .unset]) rfl ?_
    refine XS.iloadN X102.here hx rfl (hb hby d10_5) rfl ?_
    refine XS.iloadN X102.here hx rfl (hb hby d10_6) rfl ?_
    refine XS.iloadN X102.here hx rfl (hb hby d10_7) rfl ?_
    exact k)
  obtain ⟨_, T104, h104, L104, Lc104, X104, e104, hQ104, l104, st104⟩ := own_cS (own_rmcbbe l Z a0 hw hst [] (0 : Int32) (1 : Int32) (4 : Int32) h0 n0 X00 (by first | assumption | decide | omega | (simp; done) | rfl) (by first | assumption | decide | omega | (simp; done) | rfl) (by first | assumption | decide | omega | (simp; done) | rfl)) X102 hx hZ hown hh102 (own_i hw 76 rfl) (own_i hw 77 rfl) (own_i hw 3 rfl) (own_i hw 78 rfl) (by decide) (g := (mkF m 8 #[sR oa, sI 0, sI 1, sI 4, .unset] [(.int 4), (.int 1), (.int 0)])) rfl (by rw [hml]; rfl) (argsL := [(.int 0), (.int 1), (.int 4)]) (rest := []) (lenOf own_pd3 rfl) rfl rfl (hb hby d10_8) (W := 0) (Nat.le_of_eq rfl) (K := 0) (N := 0) rfl rfl (by decide) (by decide) (by decide) (by decide)
  obtain ⟨hv104, N104q, K104⟩ := hQ104
  subst hv104
  have Xo104 := X00.keep K104 all0
  have KK104 := KK0.trans K104 all0
  have N104 := l104 _ N102 N104q
  refine own_to ?_ st104
  refine own_to (V := T104.setTop (mkF m 28 #[sR oa, sI 0, sI 1, sI 4, sI 1] [(.ref oa)])) ?_ fun t k => (by
    refine XS.iloadN X104.here hx rfl (hb hby d10_11) rfl ?_
    refine XS.ifNo X104.here hx rfl (hb hby d10_12) rfl ((if0 _ _).trans (teq ((by decide) : (0 : Int32) = (0 : Int32))).2) ?_
    refine XS.iloadN X104.here hx rfl (hb hby d10_15) rfl ?_
    refine XS.iloadN X104.here hx rfl (hb hby d10_16) rfl ?_
    refine XS.icmpYes X104.here hx rfl (pc0 := 17) (pc' := 22) rfl (hb hby d10_17) rfl (feq ((by decide) : ¬ ((1 : Int32) = (4 : Int32)))).2 (by decide) (by decide) ?_
    refine XS.iloadN X104.here hx rfl (hb hby d10_22) rfl ?_
    refine XS.iloadN X104.here hx rfl (hb hby d10_23) rfl ?_
    refine XS.isub X104.here hx rfl (hb hby d10_24) rfl ?_
    refine XS.istore X104.here hx rfl (hb hby d10_25) rfl (l' := #[sR oa, sI 0, sI 1, sI 4, sI 1]) rfl ?_
    refine XS.aloadN X104.here hx rfl (hb hby d10_27) rfl rfl ?_
    exact k)
  have F106 := (sE101.keep K104)
  have F107 := (sC101.keep K104 List.not_mem_nil)
  obtain ⟨_, T105, h105, L105, Lc105, X105, e105, hQ105, l105, st105⟩ := own_cV (own_rmisl1 l Z a0 hw hst [] oa h104 n0 Xo104 F106 F107) X104 hx hZ hown e104 F106 (own_i hw 84 rfl) (own_i hw 85 rfl) (notFace_of_selects (args := #[]) (mvT hZ (own_i hw 87 rfl))) (own_i hw 87 rfl) (own_i hw 86 rfl) (own_i hw 3 rfl) (own_i hw 88 rfl) (by decide) (g := (mkF m 28 #[sR oa, sI 0, sI 1, sI 4, sI 1] [(.ref oa)])) rfl (by rw [hml]; rfl) (argsL := []) (rest := []) (lenOf own_pd4 rfl) rfl rfl (hb hby d10_28) (W := 0) (Nat.le_of_eq rfl) (K := 0) (N := 0) rfl rfl (by decide) (by decide) (by decide) (by decide)
  obtain ⟨hv105, N105q, K105⟩ := hQ105
  subst hv105
  have Xo105 := Xo104.keep K105 all0
  have KK105 := KK104.trans K105 all0
  have N105 := l105 _ N104 N105q
  refine own_to ?_ st105
  refine own_to (V := T105.setTop (mkF m 35 #[sR oa, sI 0, sI 1, sI 4, sI 1] [(.ref oa)])) ?_ fun t k => (by
    refine XS.ifNo X105.here hx rfl (hb hby d10_31) rfl ((if0 _ _).trans (feq ((by decide) : ¬ ((1 : Int32) = (0 : Int32)))).1) ?_
    refine XS.aloadN X105.here hx rfl (hb hby d10_34) rfl rfl ?_
    exact k)
  have F108 := ((sV101.keep K104 List.not_mem_nil).keep K105 List.not_mem_nil)
  obtain ⟨T109, X109, e109, st109⟩ := getF X105 hx hZ hown (host := "") (Or.inl (own_i hw 28 rfl)) Via.refl e105 F108 (g := (mkF m 35 #[sR oa, sI 0, sI 1, sI 4, sI 1] [(.ref oa)])) rfl rfl (hb hby d10_35)
  refine own_to ?_ st109
  refine own_to (V := T109.setTop (mkF m 41 #[sR oa, sI 0, sI 1, sI 4, sI 1] [(.int 1), (.int 0), (.ref ua)])) ?_ fun t k => (by
    refine XS.iloadN X109.here hx rfl (hb hby d10_38) rfl ?_
    refine XS.iload X109.here hx rfl (hb hby d10_39) rfl ?_
    exact k)
  have F111 := ((sK101.keep K104 List.not_mem_nil).keep K105 List.not_mem_nil)
  obtain ⟨_, T110, h110, L110, Lc110, X110, e110, hQ110, l110, st110⟩ := own_cS (own_rmnst4_0_1 l Z a0 hw hst [] ua sk101 c0 c1 c2 c3 h105 n0 Xo105 l0 l1 l2 l3 F111) X109 hx hZ hown e109 (own_i hw 89 rfl) (own_i hw 90 rfl) (own_i hw 91 rfl) (own_i hw 92 rfl) (by decide) (g := (mkF m 41 #[sR oa, sI 0, sI 1, sI 4, sI 1] [(.int 1), (.int 0), (.ref ua)])) rfl (by rw [hml]; rfl) (argsL := [(.ref ua), (.int 0), (.int 1)]) (rest := []) (lenOf own_pd5 rfl) rfl rfl (hb hby d10_41) (W := 0) (Nat.le_of_eq rfl) (K := 2) (N := 5) rfl rfl (by decide) (by decide) (by decide) (by decide)
  obtain ⟨oo110, ou110, hv110, N110q, K110, g110_0⟩ := hQ110
  subst hv110
  have Xo110 := Xo105.keep K110 all0
  have KK110 := KK105.trans K110 all0
  have N110 := l110 _ N105 N110q
  refine own_to ?_ st110
  refine own_to (V := T110.setTop (mkF m 57 #[sR oa, sI 0, sI 1, sI 4, sI 1] [(.ref oo110)])) ?_ fun t k => (by
    refine XS.goto X110.here hx rfl (pc0 := 44) (pc' := 57) rfl (hb hby d10_44) (by decide) (by decide) ?_
    exact k)
  exact own_retR X110 hx hret (by decide) rfl hlk (hb hby d10_57) (by rw [e110]; exact (⟨oo110, ou110, rfl, N110, KK110, g110_0⟩)) (by decide) (by decide)
def own_Qtos01 (Z : State) (ow oa ua : Addr) (c0 c1 c2 c3 : Int32) (h0 : Heap) (n0 : Nat) (v : Option Value) (h : Heap) (L : List Loc) : Prop := (∃ (oo : Addr) (ou : Addr), v = some (.ref oo) ∧ Fr n0 L ∧ Keep h0 h [] ∧ (own_Str Z h oo ou ([c0] : List Int32)))
theorem own_ef_tos01 (m : MethodId) (ow : Addr)  : entryFrame m #[(.ref ow)] 1 = mkF m 0 #[sR ow] [] := by first | (simp [entryFrame, mkF, argsToLocals, Value.category]; done) | rfl
theorem own_rmtos01 (l : Launch) (Z : State) (a0 : Array Value) (hw : ∀ d ∈ tables_1, d.before a0 Z = true) (hst : own_St Z) (ws : List Jvm.Cond) (ow oa ua : Addr) (c0 c1 c2 c3 : Int32) (h0 : Heap) (n0 : Nat) (X00 : Old Z n0 h0) (l0 : ¬ c0 < 0 ∧ ¬ (255 : Int32) < c0) (l1 : ¬ c1 < 0 ∧ ¬ (255 : Int32) < c1) (l2 : ¬ c2 < 0 ∧ ¬ (255 : Int32) < c2) (l3 : ¬ c3 < 0 ∧ ¬ (255 : Int32) < c3) (hE : Exa Z h0 ow nm1) (f1 : Fld Z h0 ow nm1 "text" nm2 (.ref oa)) (f2 : Fld Z h0 ow nm1 "start" "I" (.int 0)) (f3 : Fld Z h0 ow nm1 "end" "I" (.int 1)) (hS : own_Str Z h0 oa ua ([c0, c1, c2, c3] : List Int32)) :
    own_MF l own_mn12 prog_77_method_5_code 1 (Option.some (Jvm.ClassFile.FieldType.object "java/lang/String")) ws (own_R 5 2 5 80) #[(.ref ow)] Z h0 (own_Qtos01 Z ow oa ua c0 c1 c2 c3 h0 n0) := by
  refine own_body (plainFor_of_name own_pn4) (fun m => own_ef_tos01 m ow ) ?_
  intro p e s m below meth c s₁ hx hby hret hlk hml hZ hown hnm hh X0 e0
  have N0 := Fr.nil n0
  have KK0 : Keep h0 h0 [] := Keep.refl h0 _
  obtain ⟨⟨G1, O2, P5⟩, ⟨G3, O4, rG3⟩, -⟩ := id hst
  refine own_to (V := s₁.setTop (mkF m 1 #[sR ow] [(.ref ow)])) ?_ fun t k => (by
    refine XS.aloadN X0.here hx rfl (hb hby d11_0) rfl rfl ?_
    exact k)
  obtain ⟨T101, X101, e101, st101⟩ := getF X0 hx hZ hown (host := "") (Or.inl (own_i hw 50 rfl)) Via.refl e0 f1 (g := (mkF m 1 #[sR ow] [(.ref ow)])) rfl rfl (hb hby d11_1)
  refine own_to ?_ st101
  refine own_to (V := T101.setTop (mkF m 5 #[sR ow] [(.ref ow), (.ref oa)])) ?_ fun t k => (by
    refine XS.aloadN X101.here hx rfl (hb hby d11_4) rfl rfl ?_
    exact k)
  obtain ⟨T102, X102, e102, st102⟩ := getF X101 hx hZ hown (host := "") (Or.inl (own_i hw 52 rfl)) Via.refl e101 f2 (g := (mkF m 5 #[sR ow] [(.ref ow), (.ref oa)])) rfl rfl (hb hby d11_5)
  refine own_to ?_ st102
  refine own_to (V := T102.setTop (mkF m 9 #[sR ow] [(.ref ow), (.int 0), (.ref oa)])) ?_ fun t k => (by
    refine XS.aloadN X102.here hx rfl (hb hby d11_8) rfl rfl ?_
    exact k)
  obtain ⟨T103, X103, e103, st103⟩ := getF X102 hx hZ hown (host := "") (Or.inl (own_i hw 54 rfl)) Via.refl e102 f3 (g := (mkF m 9 #[sR ow] [(.ref ow), (.int 0), (.ref oa)])) rfl rfl (hb hby d11_9)
  refine own_to ?_ st103
  obtain ⟨_, T104, h104, L104, Lc104, X104, e104, hQ104, l104, st104⟩ := own_cV (own_rmsub4_0_1 l Z a0 hw hst [] oa ua c0 c1 c2 c3 h0 n0 X00 l0 l1 l2 l3 hS) X103 hx hZ hown e103 hS.1 (own_i hw 61 rfl) (own_i hw 62 rfl) (notFace_of_selects (args := #[]) (mvT hZ (own_i hw 64 rfl))) (own_i hw 64 rfl) (own_i hw 63 rfl) (own_i hw 3 rfl) (own_i hw 65 rfl) (by decide) (g := (mkF m 12 #[sR ow] [(.int 1), (.int 0), (.ref oa)])) rfl (by rw [hml]; rfl) (argsL := [(.int 0), (.int 1)]) (rest := []) (lenOf own_pd6 rfl) rfl rfl (hb hby d11_12) (W := 0) (Nat.le_of_eq rfl) (K := 2) (N := 5) rfl rfl (by decide) (by decide) (by decide) (by decide)
  obtain ⟨oo104, ou104, hv104, N104q, K104, g104_0⟩ := hQ104
  subst hv104
  have Xo104 := X00.keep K104 all0
  have KK104 := KK0.trans K104 all0
  have N104 := l104 _ N0 N104q
  refine own_to ?_ st104
  exact own_retR X104 hx hret (by decide) rfl hlk (hb hby d11_15) (by rw [e104]; exact (⟨oo104, ou104, rfl, N104, KK104, g104_0⟩)) (by decide) (by decide)
def own_Qsm100 (Z : State) (oa ua ob : Addr) (kb : ClassId) (c0 c1 c2 c3 : Int32) (h0 : Heap) (n0 : Nat) (v : Option Value) (h : Heap) (L : List Loc) : Prop := (v = some (.int 1) ∧ Fr n0 L ∧ Keep h0 h [])
theorem own_ef_sm100 (m : MethodId) (oa : Addr) (ob : Addr)  : entryFrame m #[(.ref oa), (.int 0), (.ref ob), (.int 0), (.int 1)] 5 = mkF m 0 #[sR oa, sI 0, sR ob, sI 0, sI 1] [] := by first | (simp [entryFrame, mkF, argsToLocals, Value.category]; done) | rfl
theorem own_rmsm100 (l : Launch) (Z : State) (a0 : Array Value) (hw : ∀ d ∈ tables_1, d.before a0 Z = true) (hst : own_St Z) (ws : List Jvm.Cond) (oa ua ob : Addr) (kb : ClassId) (c0 c1 c2 c3 : Int32) (h0 : Heap) (n0 : Nat) (X00 : Old Z n0 h0) (l0 : ¬ c0 < 0 ∧ ¬ (255 : Int32) < c0) (l1 : ¬ c1 < 0 ∧ ¬ (255 : Int32) < c1) (l2 : ¬ c2 < 0 ∧ ¬ (255 : Int32) < c2) (l3 : ¬ c3 < 0 ∧ ¬ (255 : Int32) < c3) (hS : own_Str Z h0 oa ua ([c0] : List Int32)) (hA : Arv Z h0 ob kb .char (4 : Int32) [(.int c0), (.int c1), (.int c2), (.int c3)] (.int (0 : Int32))) :
    own_MF l own_mn15 method_2_code 5 (Option.some Jvm.ClassFile.FieldType.boolean) ws (own_R 4 0 0 53) #[(.ref oa), (.int 0), (.ref ob), (.int 0), (.int 1)] Z h0 (own_Qsm100 Z oa ua ob kb c0 c1 c2 c3 h0 n0) := by
  refine own_body (plainFor_of_name own_pn6) (fun m => own_ef_sm100 m oa ob ) ?_
  intro p e s m below meth c s₁ hx hby hret hlk hml hZ hown hnm hh X0 e0
  have N0 := Fr.nil n0
  have KK0 : Keep h0 h0 [] := Keep.refl h0 _
  obtain ⟨⟨G1, O2, P5⟩, ⟨G3, O4, rG3⟩, -⟩ := id hst
  refine own_to (V := s₁.setTop (mkF m 10 #[sR oa, sI 0, sR ob, sI 0, sI 1] [(.int 0), (.ref oa)])) ?_ fun t k => (by
    refine XS.iloadN X0.here hx rfl (hb hby d14_0) rfl ?_
    refine XS.iload X0.here hx rfl (hb hby d14_1) rfl ?_
    refine XS.icmpYes X0.here hx rfl (pc0 := 3) (pc' := 8) rfl (hb hby d14_3) rfl (tlt ((by decide) : (0 : Int32) < (1 : Int32))).1 (by decide) (by decide) ?_
    refine XS.aloadN X0.here hx rfl (hb hby d14_8) rfl rfl ?_
    refine XS.iloadN X0.here hx rfl (hb hby d14_9) rfl ?_
    exact k)
  obtain ⟨sN102, sk102, sv102, sE102, sV102, sC102, sK102, sc102, sb102, sl102⟩ := own_Str.latin hS (own_lat2 (own_allS l0 own_all0))
  obtain ⟨cq101, kq101, q101a, q101b, q101c⟩ := isOf hZ e0 hS.1
  obtain ⟨_, _, ⟨T101, L101, k101, n101⟩, -, X101, ⟨Lc101, hQ101, l101, y101, z101⟩, st101⟩ := X0.virtualBack hx (y := own_mn16) (z := own_mn16) hown (mvT hZ (own_i hw 117 rfl)) (mvT hZ (own_i hw 118 rfl)) (notFace_of_selects (args := #[]) (mvT hZ (own_i hw 120 rfl))) (mvT hZ (own_i hw 120 rfl)) (mvT hZ (own_i hw 119 rfl)) (by decide) (StrChars.Road.chN (W := 0) hZ (own_hch hw) (kI := 4) (own_i hw 2 rfl) sE102 sV102 sC102 sK102 sc102 sb102 (O2.ext X00.2) P5 (O4.ext X00.2) rG3 sl102 (i := 0) (Nat.le_of_ble_eq_true rfl) (j := (0 : Int32)) rfl (by decide) (by decide)) q101a q101c (g := (mkF m 10 #[sR oa, sI 0, sR ob, sI 0, sI 1] [(.int 0), (.ref oa)])) rfl (by rw [hml]; rfl) (Steps.refl _) (argsL := [(.int 0)]) (rest := []) (lenOf own_pd11 rfl) rfl (by show 2 * 0 + _ ≤ _; exact Nat.le_of_eq rfl) (hb hby d14_10) (fun _ _ => ⟨rfl, e0, (by decide : 0 + 0 ≤ _), (by decide : 0 + 0 ≤ _)⟩)
  dsimp only [own_R, Pt.U, Pt.locs, Pt.cells, Pt.slots] at X101 l101 y101 z101 st101 hQ101
  subst y101 z101
  obtain ⟨hv101, hL101, hh101⟩ := hQ101
  subst hL101
  have N101 : Fr n0 L101 := by rw [l101]; exact Fr.app N0 (Fr.nil n0)
  subst hv101
  refine own_to ?_ (fun t k => st101.trans k)
  refine own_to (V := T101.setTop (mkF m 17 #[sR oa, sI 0, sR ob, sI 0, sI 1] [(.int 0), (.ref ob), (.int c0)])) ?_ fun t k => (by
    refine XS.aloadN X101.here hx rfl (hb hby d14_13) rfl rfl ?_
    refine XS.iloadN X101.here hx rfl (hb hby d14_14) rfl ?_
    refine XS.iloadN X101.here hx rfl (hb hby d14_15) rfl ?_
    refine XS.iadd X101.here hx rfl (hb hby d14_16) rfl ?_
    exact k)
  obtain ⟨cl103, Ar103, q103, S103, M103, H103, G103⟩ := id hA
  have hin103 : ¬ ((0 : Int32) < 0 ∨ cl103.slots.size ≤ ((0 : Int32)).toNatClampNeg) := inb_of S103 ⟨by decide, by decide⟩
  refine own_to (V := T101.setTop (mkF m 18 #[sR oa, sI 0, sR ob, sI 0, sI 1] [(.int c0), (.int c0)])) ?_ (fun t k => X101.caload hx (j := (0 : Int32)) (v := (.int c0)) (by rw [hh101]; exact Ar103.1) (State.isArrayOf_alike hZ.alike Ar103.2.1) Ar103.2.2 hin103 (Has.at H103 hin103 rfl) (g := (mkF m 17 #[sR oa, sI 0, sR ob, sI 0, sI 1] [(.int 0), (.ref ob), (.int c0)])) rfl rfl (hb hby d14_17) t k)
  refine own_to (V := T101.setTop (mkF m 26 #[sR oa, sI 0, sR ob, sI 0, sI 1] [(.int 1)])) ?_ fun t k => (by
    refine XS.icmpNo X101.here hx rfl (hb hby d14_18) rfl (teq (rfl : c0 = c0)).2 ?_
    refine XS.iconst X101.here hx rfl (hb hby d14_21) ?_
    refine XS.goto X101.here hx rfl (pc0 := 22) (pc' := 26) rfl (hb hby d14_22) (by decide) (by decide) ?_
    exact k)
  exact own_retN X101 hx (t := .boolean) (w := (1 : Int32)) hret (by decide) rfl hlk (hb hby d14_26) (by rw [hh101]; exact (⟨rfl, N101, KK0⟩)) (by decide) (by decide)
def own_Qcrb4_0_2 (Z : State) (ob : Addr) (kb : ClassId) (d0 d1 d2 d3 : Int32) (h0 : Heap) (n0 : Nat) (v : Option Value) (h : Heap) (L : List Loc) : Prop := (∃ (oo : Addr) (ko : ClassId), v = some (.ref oo) ∧ Fr n0 L ∧ Keep h0 h [] ∧ (Arv Z h oo ko .byte (2 : Int32) [(.int d0), (.int d1)] (.int (0 : Int32))) ∧ (h0.size ≤ oo))
theorem own_ef_crb4_0_2 (m : MethodId) (ob : Addr)  : entryFrame m #[(.ref ob), (.int 0), (.int 2)] 5 = mkF m 0 #[sR ob, sI 0, sI 2, .unset, .unset] [] := by first | (simp [entryFrame, mkF, argsToLocals, Value.category]; done) | rfl
theorem own_rmcrb4_0_2 (l : Launch) (Z : State) (a0 : Array Value) (hw : ∀ d ∈ tables_1, d.before a0 Z = true) (hst : own_St Z) (ws : List Jvm.Cond) (ob : Addr) (kb : ClassId) (d0 d1 d2 d3 : Int32) (h0 : Heap) (n0 : Nat) (X00 : Old Z n0 h0) (hA : Arv Z h0 ob kb .byte (4 : Int32) [(.int d0), (.int d1), (.int d2), (.int d3)] (.int (0 : Int32))) :
    own_MF l own_mn13 jdk_65_method_133_code 5 (Option.some (Jvm.ClassFile.FieldType.array Jvm.ClassFile.FieldType.byte)) ws (own_R 1 1 2 18) #[(.ref ob), (.int 0), (.int 2)] Z h0 (own_Qcrb4_0_2 Z ob kb d0 d1 d2 d3 h0 n0) := by
  refine own_body (plainFor_of_name own_pn0) (fun m => own_ef_crb4_0_2 m ob ) ?_
  intro p e s m below meth c s₁ hx hby hret hlk hml hZ hown hnm hh X0 e0
  have N0 := Fr.nil n0
  have KK0 : Keep h0 h0 [] := Keep.refl h0 _
  obtain ⟨⟨G1, O2, P5⟩, ⟨G3, O4, rG3⟩, -⟩ := id hst
  refine own_to (V := s₁.setTop (mkF m 2 #[sR ob, sI 0, sI 2, .unset, .unset] [(.int 2), (.int 0)])) ?_ fun t k => (by
    refine XS.iloadN X0.here hx rfl (hb hby d12_0) rfl ?_
    refine XS.iloadN X0.here hx rfl (hb hby d12_1) rfl ?_
    exact k)
  obtain ⟨_, T101, h101, L101, Lc101, X101, e101, hQ101, l101, st101⟩ := own_cS (own_rmckl l Z a0 hw hst [] (0 : Int32) (2 : Int32) h0 n0 X00 (by first | assumption | decide | omega | (simp; done) | rfl)) X0 hx hZ hown e0 (own_i hw 101 rfl) (own_i hw 102 rfl) (own_i hw 96 rfl) (own_i hw 103 rfl) (by decide) (g := (mkF m 2 #[sR ob, sI 0, sI 2, .unset, .unset] [(.int 2), (.int 0)])) rfl (by rw [hml]; rfl) (argsL := [(.int 0), (.int 2)]) (rest := []) (lenOf own_pd7 rfl) rfl rfl (hb hby d12_2) (W := 0) (Nat.le_of_eq rfl) (K := 0) (N := 0) rfl rfl (by decide) (by decide) (by decide) (by decide)
  obtain ⟨hv101, N101q, K101⟩ := hQ101
  subst hv101
  have Xo101 := X00.keep K101 all0
  have KK101 := KK0.trans K101 all0
  have N101 := l101 _ N0 N101q
  refine own_to ?_ st101
  refine own_to (V := T101.setTop (mkF m 10 #[sR ob, sI 0, sI 2, sI 2, .unset] [(.int 2)])) ?_ fun t k => (by
    refine XS.iloadN X101.here hx rfl (hb hby d12_5) rfl ?_
    refine XS.iloadN X101.here hx rfl (hb hby d12_6) rfl ?_
    refine XS.isub X101.here hx rfl (hb hby d12_7) rfl ?_
    refine XS.istoreN X101.here hx rfl (hb hby d12_8) rfl (l' := #[sR ob, sI 0, sI 2, sI 2, .unset]) rfl ?_
    refine XS.iloadN X101.here hx rfl (hb hby d12_9) rfl ?_
    exact k)
  obtain ⟨T102, h102, k102, X102, e102, E102, A102, st102⟩ := newP X101 hx hZ (own_i hw 19 rfl) e101 (g := (mkF m 10 #[sR ob, sI 0, sI 2, sI 2, .unset] [(.int 2)])) rfl (hb hby d12_10) rfl (by decide) (cap := 2) (by decide) (by decide) (by decide) (by decide)
  obtain ⟨b102, g102⟩ : ∃ z, z = h101.size := ⟨_, rfl⟩
  rw [← g102] at A102 st102
  have Xo102 := Xo101.ext E102
  have KK102 := KK101.ext E102
  have ge_b102 := Nat.le_trans (own_ole Xo101) (Nat.le_of_eq g102.symm)
  have sz_b102 := Nat.le_trans KK101.1 (Nat.le_of_eq g102.symm)
  have V102 : Arv Z h102 b102 k102 .byte (2 : Int32) [(.int 0), (.int 0)] (.int (0 : Int32)) := (Arv.new A102 (by decide)).pad (pad_rep [] (.int (0 : Int32)) 2)
  refine own_to ?_ st102
  refine own_to (V := T102.setTop (mkF m 20 #[sR ob, sI 0, sI 2, sI 2, sR b102] [(.ref ob), (.int 0), (.ref b102), (.int 0), (.ref ob)])) ?_ fun t k => (by
    refine XS.astore X102.here hx rfl (hb hby d12_12) rfl rfl (l' := #[sR ob, sI 0, sI 2, sI 2, sR b102]) rfl ?_
    refine XS.aloadN X102.here hx rfl (hb hby d12_14) rfl rfl ?_
    refine XS.iloadN X102.here hx rfl (hb hby d12_15) rfl ?_
    refine XS.aload X102.here hx rfl (hb hby d12_16) rfl rfl ?_
    refine XS.iconst X102.here hx rfl (hb hby d12_18) ?_
    refine XS.aloadN X102.here hx rfl (hb hby d12_19) rfl rfl ?_
    exact k)
  have F103 := ((hA.keep K101 List.not_mem_nil).ext E102)
  obtain ⟨cl104, Ar104, q104, S104, M104, H104, G104⟩ := id F103
  refine own_to (V := T102.setTop (mkF m 21 #[sR ob, sI 0, sI 2, sI 2, sR b102] [(.int 4), (.int 0), (.ref b102), (.int 0), (.ref ob)])) ?_ (fun t k => X102.arraylength hx (by rw [e102]; exact Ar104.1) (State.isArrayOf_alike hZ.alike Ar104.2.1) (g := (mkF m 20 #[sR ob, sI 0, sI 2, sI 2, sR b102] [(.ref ob), (.int 0), (.ref b102), (.int 0), (.ref ob)])) rfl rfl (hb hby d12_20) t (by rw [len_of S104 M104]; exact k))
  refine own_to (V := T102.setTop (mkF m 24 #[sR ob, sI 0, sI 2, sI 2, sR b102] [(.int 2), (.int 4), (.int 0), (.ref b102), (.int 0), (.ref ob)])) ?_ fun t k => (by
    refine XS.iloadN X102.here hx rfl (hb hby d12_21) rfl ?_
    refine XS.isub X102.here hx rfl (hb hby d12_22) rfl ?_
    refine XS.iloadN X102.here hx rfl (hb hby d12_23) rfl ?_
    exact k)
  obtain ⟨_, T105, h105, L105, Lc105, X105, e105, hQ105, l105, st105⟩ := own_cS (own_rmmamin l Z a0 hw hst [] (4 : Int32) (2 : Int32) h102 n0 Xo102 ) X102 hx hZ hown e102 (own_i hw 104 rfl) (own_i hw 32 rfl) (own_i hw 33 rfl) (own_i hw 34 rfl) (by decide) (g := (mkF m 24 #[sR ob, sI 0, sI 2, sI 2, sR b102] [(.int 2), (.int 4), (.int 0), (.ref b102), (.int 0), (.ref ob)])) rfl (by rw [hml]; rfl) (argsL := [(.int 4), (.int 2)]) (rest := [(.int 0), (.ref b102), (.int 0), (.ref ob)]) (lenOf own_pd8 rfl) rfl rfl (hb hby d12_24) (W := 4) (Nat.le_of_eq rfl) (K := 1) (N := 2) rfl rfl (by decide) (by decide) (by decide) (by decide)
  rcases hQ105 with ⟨hv105, N105q, K105, g105_0⟩ | ⟨hv105, N105q, K105, g105_0⟩
  ·skip
   subst hv105
   have Xo105 := Xo102.keep K105 all0
   have KK105 := KK102.trans K105 all0
   have N105 := l105 _ N101 N105q
   exact absurd (by decide) g105_0
  ·skip
   subst hv105
   have Xo105 := Xo102.keep K105 all0
   have KK105 := KK102.trans K105 all0
   have N105 := l105 _ N101 N105q
   refine own_to ?_ st105
   have F107 := (F103.keep K105 List.not_mem_nil)
   have F108 := (V102.keep K105 List.not_mem_nil)
   obtain ⟨T106, h106, L106, X106, e106, N106, K106, V106', st106⟩ := cpA X105 hx hZ hown (own_i hw 105 rfl) (own_i hw 108 rfl) (own_i hw 106 rfl) (own_i hw 107 rfl) e105 (sp := (0 : Int32)) (dp := (0 : Int32)) (nn := (2 : Int32)) (us := [(.int d0), (.int d1)]) F107 F108 (Or.inl ⟨rfl, rfl⟩) (by decide) (by decide) (by decide) (by decide) (by decide) rfl (Nat.le_of_ble_eq_true rfl) N105 ge_b102 (g := (mkF m 27 #[sR ob, sI 0, sI 2, sI 2, sR b102] [(.int 2), (.int 0), (.ref b102), (.int 0), (.ref ob)])) rfl (by rw [hml]; rfl) (rest := []) rfl (hb hby d12_27) (by decide) (W := 0) (by show 2 * 0 + _ ≤ _; exact Nat.le_of_eq rfl) (by decide)
   have Xo106 := Xo105.keep K106 (allS ge_b102 all0)
   have KK106 := KK105.trans K106 (allS (Or.inr sz_b102) all0)
   have V106 : Arv Z h106 b102 k102 .byte (2 : Int32) [(.int d0), (.int d1)] (.int (0 : Int32)) := V106'
   refine own_to ?_ st106
   refine own_to (V := T106.setTop (mkF m 32 #[sR ob, sI 0, sI 2, sI 2, sR b102] [(.ref b102)])) ?_ fun t k => (by
     refine XS.aload X106.here hx rfl (hb hby d12_30) rfl rfl ?_
     exact k)
   exact own_retR X106 hx hret (by decide) rfl hlk (hb hby d12_32) (by rw [e106]; exact (⟨b102, k102, rfl, N106, KK106, V106, sz_b102⟩)) (by decide) (by decide)
def own_Qcor4_0_2 (Z : State) (ob : Addr) (kb : ClassId) (d0 d1 d2 d3 : Int32) (h0 : Heap) (n0 : Nat) (v : Option Value) (h : Heap) (L : List Loc) : Prop := (∃ (oo : Addr) (ko : ClassId), v = some (.ref oo) ∧ Fr n0 L ∧ Keep h0 h [] ∧ (Arv Z h oo ko .byte (2 : Int32) [(.int d0), (.int d1)] (.int (0 : Int32))) ∧ (h0.size ≤ oo))
theorem own_ef_cor4_0_2 (m : MethodId) (ob : Addr)  : entryFrame m #[(.ref ob), (.int 0), (.int 2)] 3 = mkF m 0 #[sR ob, sI 0, sI 2] [] := by first | (simp [entryFrame, mkF, argsToLocals, Value.category]; done) | rfl
theorem own_rmcor4_0_2 (l : Launch) (Z : State) (a0 : Array Value) (hw : ∀ d ∈ tables_1, d.before a0 Z = true) (hst : own_St Z) (ws : List Jvm.Cond) (ob : Addr) (kb : ClassId) (d0 d1 d2 d3 : Int32) (h0 : Heap) (n0 : Nat) (X00 : Old Z n0 h0) (hA : Arv Z h0 ob kb .byte (4 : Int32) [(.int d0), (.int d1), (.int d2), (.int d3)] (.int (0 : Int32))) :
    own_MF l own_mn14 jdk_65_method_132_code 3 (Option.some (Jvm.ClassFile.FieldType.array Jvm.ClassFile.FieldType.byte)) ws (own_R 2 1 2 34) #[(.ref ob), (.int 0), (.int 2)] Z h0 (own_Qcor4_0_2 Z ob kb d0 d1 d2 d3 h0 n0) := by
  refine own_body (plainFor_of_name own_pn0) (fun m => own_ef_cor4_0_2 m ob ) ?_
  intro p e s m below meth c s₁ hx hby hret hlk hml hZ hown hnm hh X0 e0
  have N0 := Fr.nil n0
  have KK0 : Keep h0 h0 [] := Keep.refl h0 _
  obtain ⟨⟨G1, O2, P5⟩, ⟨G3, O4, rG3⟩, -⟩ := id hst
  refine own_to (V := s₁.setTop (mkF m 6 #[sR ob, sI 0, sI 2] [(.ref ob), (.int 2)])) ?_ fun t k => (by
    refine XS.iloadN X0.here hx rfl (hb hby d13_0) rfl ?_
    refine XS.ifNo X0.here hx rfl (hb hby d13_1) rfl ((if0 _ _).trans (teq ((by decide) : (0 : Int32) = (0 : Int32))).2) ?_
    refine XS.iloadN X0.here hx rfl (hb hby d13_4) rfl ?_
    refine XS.aloadN X0.here hx rfl (hb hby d13_5) rfl rfl ?_
    exact k)
  obtain ⟨cl101, Ar101, q101, S101, M101, H101, G101⟩ := id hA
  refine own_to (V := s₁.setTop (mkF m 7 #[sR ob, sI 0, sI 2] [(.int 4), (.int 2)])) ?_ (fun t k => X0.arraylength hx (by rw [e0]; exact Ar101.1) (State.isArrayOf_alike hZ.alike Ar101.2.1) (g := (mkF m 6 #[sR ob, sI 0, sI 2] [(.ref ob), (.int 2)])) rfl rfl (hb hby d13_6) t (by rw [len_of S101 M101]; exact k))
  refine own_to (V := s₁.setTop (mkF m 13 #[sR ob, sI 0, sI 2] [(.int 2), (.int 0), (.ref ob)])) ?_ fun t k => (by
    refine XS.icmpNo X0.here hx rfl (hb hby d13_7) rfl (feq ((by decide) : ¬ ((2 : Int32) = (4 : Int32)))).1 ?_
    refine XS.aloadN X0.here hx rfl (hb hby d13_10) rfl rfl ?_
    refine XS.iloadN X0.here hx rfl (hb hby d13_11) rfl ?_
    refine XS.iloadN X0.here hx rfl (hb hby d13_12) rfl ?_
    exact k)
  obtain ⟨_, T102, h102, L102, Lc102, X102, e102, hQ102, l102, st102⟩ := own_cS (own_rmcrb4_0_2 l Z a0 hw hst [] ob kb d0 d1 d2 d3 h0 n0 X00 hA) X0 hx hZ hown e0 (own_i hw 98 rfl) (own_i hw 99 rfl) (own_i hw 96 rfl) (own_i hw 100 rfl) (by decide) (g := (mkF m 13 #[sR ob, sI 0, sI 2] [(.int 2), (.int 0), (.ref ob)])) rfl (by rw [hml]; rfl) (argsL := [(.ref ob), (.int 0), (.int 2)]) (rest := []) (lenOf own_pd9 rfl) rfl rfl (hb hby d13_13) (W := 0) (Nat.le_of_eq rfl) (K := 1) (N := 2) rfl rfl (by decide) (by decide) (by decide) (by decide)
  obtain ⟨oo102, ko102, hv102, N102q, K102, g102_0, g102_1⟩ := hQ102
  subst hv102
  have Xo102 := X00.keep K102 all0
  have KK102 := KK0.trans K102 all0
  have N102 := l102 _ N0 N102q
  have ge_oo102 := Nat.le_trans (own_ole X00) g102_1
  have sz_oo102 := Nat.le_trans KK0.1 g102_1
  refine own_to ?_ st102
  exact own_retR X102 hx hret (by decide) rfl hlk (hb hby d13_16) (by rw [e102]; exact (⟨oo102, ko102, rfl, N102, KK102, g102_0, sz_oo102⟩)) (by decide) (by decide)
def own_Qnst4_0_2 (Z : State) (ob : Addr) (kb : ClassId) (c0 c1 c2 c3 : Int32) (h0 : Heap) (n0 : Nat) (v : Option Value) (h : Heap) (L : List Loc) : Prop := (∃ (oo : Addr) (ou : Addr), v = some (.ref oo) ∧ Fr n0 L ∧ Keep h0 h [] ∧ (own_Str Z h oo ou ([c0, c1] : List Int32)))
theorem own_ef_nst4_0_2 (m : MethodId) (ob : Addr)  : entryFrame m #[(.ref ob), (.int 0), (.int 2)] 3 = mkF m 0 #[sR ob, sI 0, sI 2] [] := by first | (simp [entryFrame, mkF, argsToLocals, Value.category]; done) | rfl
theorem own_rmnst4_0_2 (l : Launch) (Z : State) (a0 : Array Value) (hw : ∀ d ∈ tables_1, d.before a0 Z = true) (hst : own_St Z) (ws : List Jvm.Cond) (ob : Addr) (kb : ClassId) (c0 c1 c2 c3 : Int32) (h0 : Heap) (n0 : Nat) (X00 : Old Z n0 h0) (l0 : ¬ c0 < 0 ∧ ¬ (255 : Int32) < c0) (l1 : ¬ c1 < 0 ∧ ¬ (255 : Int32) < c1) (l2 : ¬ c2 < 0 ∧ ¬ (255 : Int32) < c2) (l3 : ¬ c3 < 0 ∧ ¬ (255 : Int32) < c3) (hA : Arv Z h0 ob kb .byte (4 : Int32) [(.int (StrChars.lo8 c0)), (.int (StrChars.lo8 c1)), (.int (StrChars.lo8 c2)), (.int (StrChars.lo8 c3))] (.int (0 : Int32))) :
    own_MF l own_mn9 jdk_43_method_47_code 3 (Option.some (Jvm.ClassFile.FieldType.object "java/lang/String")) ws (own_R 3 2 6 50) #[(.ref ob), (.int 0), (.int 2)] Z h0 (own_Qnst4_0_2 Z ob kb c0 c1 c2 c3 h0 n0) := by
  refine own_body (plainFor_of_name own_pn5) (fun m => own_ef_nst4_0_2 m ob ) ?_
  intro p e s m below meth c s₁ hx hby hret hlk hml hZ hown hnm hh X0 e0
  have N0 := Fr.nil n0
  have KK0 : Keep h0 h0 [] := Keep.refl h0 _
  obtain ⟨⟨G1, O2, P5⟩, ⟨G3, O4, rG3⟩, -⟩ := id hst
  refine own_to (V := s₁.setTop (mkF m 7 #[sR ob, sI 0, sI 2] [])) ?_ fun t k => (by
    refine XS.iloadN X0.here hx rfl (hb hby d9_0) rfl ?_
    refine XS.ifYes X0.here hx rfl (pc0 := 1) (pc' := 7) rfl (hb hby d9_1) rfl ((if0 _ _).trans (feq ((by decide) : ¬ ((2 : Int32) = (0 : Int32)))).2) (by decide) (by decide) ?_
    exact k)
  obtain ⟨T101, h101, X101, e101, E101, A101, D101, U101, st101⟩ := newO X0 hx hZ hown (own_i hw 93 rfl) (own_i hw 2 rfl) (own_i hw 3 rfl) e0 (g := (mkF m 7 #[sR ob, sI 0, sI 2] [])) rfl (hb hby d9_7) (by decide) (by decide)
  obtain ⟨b101, g101⟩ : ∃ z, z = h0.size := ⟨_, rfl⟩
  rw [← g101] at A101 D101 U101 st101
  have Xo101 := X00.ext E101
  have KK101 := KK0.ext E101
  have ge_b101 := Nat.le_trans (own_ole X00) (Nat.le_of_eq g101.symm)
  have sz_b101 := Nat.le_trans KK0.1 (Nat.le_of_eq g101.symm)
  have Fi101_27 : Fld Z h101 b101 nm0 "coder" "B" (.int 0) := D101 (Or.inr (own_i hw 27 rfl)) (ty := .byte) (by decide)
  have Fi101_29 : Fld Z h101 b101 nm0 "value" "[B" .null := D101 (Or.inr (own_i hw 29 rfl)) (ty := (.array .byte)) (by decide)
  refine own_to ?_ st101
  refine own_to (V := T101.setTop (mkF m 16 #[sR ob, sI 0, sI 2] [(.int 2), (.int 0), (.ref ob), (.ref b101), (.ref b101)])) ?_ fun t k => (by
    refine XS.dup X101.here hx rfl (hb hby d9_10) rfl rfl ?_
    refine XS.aloadN X101.here hx rfl (hb hby d9_11) rfl rfl ?_
    refine XS.iloadN X101.here hx rfl (hb hby d9_12) rfl ?_
    refine XS.iloadN X101.here hx rfl (hb hby d9_13) rfl ?_
    refine XS.iloadN X101.here hx rfl (hb hby d9_14) rfl ?_
    refine XS.iadd X101.here hx rfl (hb hby d9_15) rfl ?_
    exact k)
  have F103 := (hA.ext E101)
  obtain ⟨_, T102, h102, L102, Lc102, X102, e102, hQ102, l102, st102⟩ := own_cS (own_rmcor4_0_2 l Z a0 hw hst [] ob kb (StrChars.lo8 c0) (StrChars.lo8 c1) (StrChars.lo8 c2) (StrChars.lo8 c3) h101 n0 Xo101 F103) X101 hx hZ hown e101 (own_i hw 94 rfl) (own_i hw 95 rfl) (own_i hw 96 rfl) (own_i hw 97 rfl) (by decide) (g := (mkF m 16 #[sR ob, sI 0, sI 2] [(.int 2), (.int 0), (.ref ob), (.ref b101), (.ref b101)])) rfl (by rw [hml]; rfl) (argsL := [(.ref ob), (.int 0), (.int 2)]) (rest := [(.ref b101), (.ref b101)]) (lenOf own_pd9 rfl) rfl rfl (hb hby d9_16) (W := 2) (Nat.le_of_eq rfl) (K := 2) (N := 6) rfl rfl (by decide) (by decide) (by decide) (by decide)
  obtain ⟨oo102, ko102, hv102, N102q, K102, g102_0, g102_1⟩ := hQ102
  subst hv102
  have Xo102 := Xo101.keep K102 all0
  have KK102 := KK101.trans K102 all0
  have N102 := l102 _ N0 N102q
  have ge_oo102 := Nat.le_trans (own_ole Xo101) g102_1
  have sz_oo102 := Nat.le_trans KK101.1 g102_1
  refine own_to ?_ st102
  refine own_to (V := T102.setTop (mkF m 20 #[sR ob, sI 0, sI 2] [(.int 0), (.ref oo102), (.ref b101), (.ref b101)])) ?_ fun t k => (by
    refine XS.iconst X102.here hx rfl (hb hby d9_19) ?_
    exact k)
  have F105 := (A101.keep K102)
  have F106 := (Fi101_29.keep K102 List.not_mem_nil)
  have F107 := (Fi101_27.keep K102 List.not_mem_nil)
  obtain ⟨_, T104, h104, L104, Lc104, X104, e104, hQ104, l104, st104⟩ := own_cI (own_rmsibb l Z a0 hw hst [] b101 oo102 h102 n0 Xo102 F105 F106 F107 ge_b101) X102 hx hZ hown e102 rfl (own_i hw 109 rfl) (own_i hw 110 rfl) (own_i hw 3 rfl) (own_i hw 111 rfl) (by decide) (g := (mkF m 20 #[sR ob, sI 0, sI 2] [(.int 0), (.ref oo102), (.ref b101), (.ref b101)])) rfl (by rw [hml]; rfl) (argsL := [(.ref oo102), (.int 0)]) (rest := [(.ref b101)]) (lenOf own_pd10 rfl) rfl rfl (hb hby d9_20) (W := 1) (Nat.le_of_eq rfl) (K := 2) (N := 6) rfl rfl (by decide) (by decide) (by decide) (by decide)
  obtain ⟨hv104, N104q, K104, g104_0, g104_1⟩ := hQ104
  subst hv104
  have Xo104 := Xo102.keep K104 (allS ge_b101 all0)
  have KK104 := KK102.trans K104 (allS (Or.inr sz_b101) all0)
  have N104 := l104 _ N102 N104q
  refine own_to ?_ st104
  have F109 := (F105.keep K104)
  have F110 := (g102_0.keep K104 (own_nmS (Ne.symm (Nat.ne_of_lt (Nat.lt_of_lt_of_le A101.lt g102_1))) own_nm0))
  have Fz108 : own_Str Z h104 b101 oo102 ([c0, c1] : List Int32) := own_mkLit F109 g104_0 g104_1 F110 rfl (own_allS l0 (own_allS l1 own_all0)) rfl (Nat.le_of_ble_eq_true rfl)
  exact own_retR X104 hx hret (by decide) rfl hlk (hb hby d9_23) (by rw [e104]; exact (⟨b101, oo102, rfl, N104, KK104, Fz108⟩)) (by decide) (by decide)
def own_Qsub4_0_2 (Z : State) (oa ua : Addr) (c0 c1 c2 c3 : Int32) (h0 : Heap) (n0 : Nat) (v : Option Value) (h : Heap) (L : List Loc) : Prop := (∃ (oo : Addr) (ou : Addr), v = some (.ref oo) ∧ Fr n0 L ∧ Keep h0 h [] ∧ (own_Str Z h oo ou ([c0, c1] : List Int32)))
theorem own_ef_sub4_0_2 (m : MethodId) (oa : Addr)  : entryFrame m #[(.ref oa), (.int 0), (.int 2)] 5 = mkF m 0 #[sR oa, sI 0, sI 2, .unset, .unset] [] := by first | (simp [entryFrame, mkF, argsToLocals, Value.category]; done) | rfl
theorem own_rmsub4_0_2 (l : Launch) (Z : State) (a0 : Array Value) (hw : ∀ d ∈ tables_1, d.before a0 Z = true) (hst : own_St Z) (ws : List Jvm.Cond) (oa ua : Addr) (c0 c1 c2 c3 : Int32) (h0 : Heap) (n0 : Nat) (X00 : Old Z n0 h0) (l0 : ¬ c0 < 0 ∧ ¬ (255 : Int32) < c0) (l1 : ¬ c1 < 0 ∧ ¬ (255 : Int32) < c1) (l2 : ¬ c2 < 0 ∧ ¬ (255 : Int32) < c2) (l3 : ¬ c3 < 0 ∧ ¬ (255 : Int32) < c3) (hS : own_Str Z h0 oa ua ([c0, c1, c2, c3] : List Int32)) :
    own_MF l own_mn10 jdk_42_method_92_code 5 (Option.some (Jvm.ClassFile.FieldType.object "java/lang/String")) ws (own_R 4 2 6 64) #[(.ref oa), (.int 0), (.int 2)] Z h0 (own_Qsub4_0_2 Z oa ua c0 c1 c2 c3 h0 n0) := by
  refine own_body (plainFor_of_name own_pn2) (fun m => own_ef_sub4_0_2 m oa ) ?_
  intro p e s m below meth c s₁ hx hby hret hlk hml hZ hown hnm hh X0 e0
  have N0 := Fr.nil n0
  have KK0 : Keep h0 h0 [] := Keep.refl h0 _
  obtain ⟨⟨G1, O2, P5⟩, ⟨G3, O4, rG3⟩, -⟩ := id hst
  obtain ⟨sk101, sE101, sV101, sC101, sK101', sb101⟩ := own_Str.latinL hS (own_lat2 (own_allS l0 (own_allS l1 (own_allS l2 (own_allS l3 own_all0)))))
  have sK101 : Arv Z h0 ua sk101 .byte (4 : Int32) [(.int (StrChars.lo8 c0)), (.int (StrChars.lo8 c1)), (.int (StrChars.lo8 c2)), (.int (StrChars.lo8 c3))] (.int (0 : Int32)) := sK101'
  refine own_to (V := s₁.setTop (mkF m 1 #[sR oa, sI 0, sI 2, .unset, .unset] [(.ref oa)])) ?_ fun t k => (by
    refine XS.aloadN X0.here hx rfl (hb hby d10_0) rfl rfl ?_
    exact k)
  obtain ⟨sE103, sd103, sN103, sk103, sv103, sV103, sC103, sK103, sc103, sb103, sl103⟩ := id hS
  obtain ⟨cq102, kq102, q102a, q102b, q102c⟩ := isOf hZ e0 sE101
  obtain ⟨_, _, ⟨T102, L102, k102, n102⟩, -, X102, ⟨Lc102, hQ102, l102, y102, z102⟩, st102⟩ := X0.virtualBack hx (y := own_mn11) (z := own_mn11) hown (mvT hZ (own_i hw 66 rfl)) (mvT hZ (own_i hw 67 rfl)) (notFace_of_selects (args := #[]) (mvT hZ (own_i hw 69 rfl))) (mvT hZ (own_i hw 69 rfl)) (mvT hZ (own_i hw 68 rfl)) (by decide) (StrChars.Road.lenW (W := 0) hZ (own_hln hw) (kI := 4) (own_i hw 2 rfl) sE103 sV103 sC103 sK103 sc103 sb103 (O2.ext X00.2) P5 sl103 (by decide) (by decide)) q102a q102c (g := (mkF m 1 #[sR oa, sI 0, sI 2, .unset, .unset] [(.ref oa)])) rfl (by rw [hml]; rfl) (Steps.refl _) (argsL := []) (rest := []) (lenOf own_pd2 rfl) rfl (by show 2 * 0 + _ ≤ _; exact Nat.le_of_eq rfl) (hb hby d10_1) (fun _ _ => ⟨rfl, e0, (by decide : 0 + 0 ≤ _), (by decide : 0 + 0 ≤ _)⟩)
  dsimp only [own_R, Pt.U, Pt.locs, Pt.cells, Pt.slots] at X102 l102 y102 z102 st102 hQ102
  subst y102 z102
  obtain ⟨hv102, hL102, hh102⟩ := hQ102
  subst hL102
  have N102 : Fr n0 L102 := by rw [l102]; exact Fr.app N0 (Fr.nil n0)
  subst hv102
  refine own_to ?_ (fun t k => st102.trans k)
  refine own_to (V := T102.setTop (mkF m 8 #[sR oa, sI 0, sI 2, sI 4, .unset] [(.int 4), (.int 2), (.int 0)])) ?_ fun t k => (by
    refine XS.istoreN X102.here hx rfl (hb hby d10_4) rfl (l' := #[sR oa, sI 0, sI 2, sI 4, .unset]) rfl ?_
    refine XS.iloadN X102.here hx rfl (hb hby d10_5) rfl ?_
    refine XS.iloadN X102.here hx rfl (hb hby d10_6) rfl ?_
    refine XS.iloadN X102.here hx rfl (hb hby d10_7) rfl ?_
    exact k)
  obtain ⟨_, T104, h104, L104, Lc104, X104, e104, hQ104, l104, st104⟩ := own_cS (own_rmcbbe l Z a0 hw hst [] (0 : Int32) (2 : Int32) (4 : Int32) h0 n0 X00 (by first | assumption | decide | omega | (simp; done) | rfl) (by first | assumption | decide | omega | (simp; done) | rfl) (by first | assumption | decide | omega | (simp; done) | rfl)) X102 hx hZ hown hh102 (own_i hw 76 rfl) (own_i hw 77 rfl) (own_i hw 3 rfl) (own_i hw 78 rfl) (by decide) (g := (mkF m 8 #[sR oa, sI 0, sI 2, sI 4, .unset] [(.int 4), (.int 2), (.int 0)])) rfl (by rw [hml]; rfl) (argsL := [(.int 0), (.int 2), (.int 4)]) (rest := []) (lenOf own_pd3 rfl) rfl rfl (hb hby d10_8) (W := 0) (Nat.le_of_eq rfl) (K := 0) (N := 0) rfl rfl (by decide) (by decide) (by decide) (by decide)
  obtain ⟨hv104, N104q, K104⟩ := hQ104
  subst hv104
  have Xo104 := X00.keep K104 all0
  have KK104 := KK0.trans K104 all0
  have N104 := l104 _ N102 N104q
  refine own_to ?_ st104
  refine own_to (V := T104.setTop (mkF m 28 #[sR oa, sI 0, sI 2, sI 4, sI 2] [(.ref oa)])) ?_ fun t k => (by
    refine XS.iloadN X104.here hx rfl (hb hby d10_11) rfl ?_
    refine XS.ifNo X104.here hx rfl (hb hby d10_12) rfl ((if0 _ _).trans (teq ((by decide) : (0 : Int32) = (0 : Int32))).2) ?_
    refine XS.iloadN X104.here hx rfl (hb hby d10_15) rfl ?_
    refine XS.iloadN X104.here hx rfl (hb hby d10_16) rfl ?_
    refine XS.icmpYes X104.here hx rfl (pc0 := 17) (pc' := 22) rfl (hb hby d10_17) rfl (feq ((by decide) : ¬ ((2 : Int32) = (4 : Int32)))).2 (by decide) (by decide) ?_
    refine XS.iloadN X104.here hx rfl (hb hby d10_22) rfl ?_
    refine XS.iloadN X104.here hx rfl (hb hby d10_23) rfl ?_
    refine XS.isub X104.here hx rfl (hb hby d10_24) rfl ?_
    refine XS.istore X104.here hx rfl (hb hby d10_25) rfl (l' := #[sR oa, sI 0, sI 2, sI 4, sI 2]) rfl ?_
    refine XS.aloadN X104.here hx rfl (hb hby d10_27) rfl rfl ?_
    exact k)
  have F106 := (sE101.keep K104)
  have F107 := (sC101.keep K104 List.not_mem_nil)
  obtain ⟨_, T105, h105, L105, Lc105, X105, e105, hQ105, l105, st105⟩ := own_cV (own_rmisl1 l Z a0 hw hst [] oa h104 n0 Xo104 F106 F107) X104 hx hZ hown e104 F106 (own_i hw 84 rfl) (own_i hw 85 rfl) (notFace_of_selects (args := #[]) (mvT hZ (own_i hw 87 rfl))) (own_i hw 87 rfl) (own_i hw 86 rfl) (own_i hw 3 rfl) (own_i hw 88 rfl) (by decide) (g := (mkF m 28 #[sR oa, sI 0, sI 2, sI 4, sI 2] [(.ref oa)])) rfl (by rw [hml]; rfl) (argsL := []) (rest := []) (lenOf own_pd4 rfl) rfl rfl (hb hby d10_28) (W := 0) (Nat.le_of_eq rfl) (K := 0) (N := 0) rfl rfl (by decide) (by decide) (by decide) (by decide)
  obtain ⟨hv105, N105q, K105⟩ := hQ105
  subst hv105
  have Xo105 := Xo104.keep K105 all0
  have KK105 := KK104.trans K105 all0
  have N105 := l105 _ N104 N105q
  refine own_to ?_ st105
  refine own_to (V := T105.setTop (mkF m 35 #[sR oa, sI 0, sI 2, sI 4, sI 2] [(.ref oa)])) ?_ fun t k => (by
    refine XS.ifNo X105.here hx rfl (hb hby d10_31) rfl ((if0 _ _).trans (feq ((by decide) : ¬ ((1 : Int32) = (0 : Int32)))).1) ?_
    refine XS.aloadN X105.here hx rfl (hb hby d10_34) rfl rfl ?_
    exact k)
  have F108 := ((sV101.keep K104 List.not_mem_nil).keep K105 List.not_mem_nil)
  obtain ⟨T109, X109, e109, st109⟩ := getF X105 hx hZ hown (host := "") (Or.inl (own_i hw 28 rfl)) Via.refl e105 F108 (g := (mkF m 35 #[sR oa, sI 0, sI 2, sI 4, sI 2] [(.ref oa)])) rfl rfl (hb hby d10_35)
  refine own_to ?_ st109
  refine own_to (V := T109.setTop (mkF m 41 #[sR oa, sI 0, sI 2, sI 4, sI 2] [(.int 2), (.int 0), (.ref ua)])) ?_ fun t k => (by
    refine XS.iloadN X109.here hx rfl (hb hby d10_38) rfl ?_
    refine XS.iload X109.here hx rfl (hb hby d10_39) rfl ?_
    exact k)
  have F111 := ((sK101.keep K104 List.not_mem_nil).keep K105 List.not_mem_nil)
  obtain ⟨_, T110, h110, L110, Lc110, X110, e110, hQ110, l110, st110⟩ := own_cS (own_rmnst4_0_2 l Z a0 hw hst [] ua sk101 c0 c1 c2 c3 h105 n0 Xo105 l0 l1 l2 l3 F111) X109 hx hZ hown e109 (own_i hw 89 rfl) (own_i hw 90 rfl) (own_i hw 91 rfl) (own_i hw 92 rfl) (by decide) (g := (mkF m 41 #[sR oa, sI 0, sI 2, sI 4, sI 2] [(.int 2), (.int 0), (.ref ua)])) rfl (by rw [hml]; rfl) (argsL := [(.ref ua), (.int 0), (.int 2)]) (rest := []) (lenOf own_pd5 rfl) rfl rfl (hb hby d10_41) (W := 0) (Nat.le_of_eq rfl) (K := 2) (N := 6) rfl rfl (by decide) (by decide) (by decide) (by decide)
  obtain ⟨oo110, ou110, hv110, N110q, K110, g110_0⟩ := hQ110
  subst hv110
  have Xo110 := Xo105.keep K110 all0
  have KK110 := KK105.trans K110 all0
  have N110 := l110 _ N105 N110q
  refine own_to ?_ st110
  refine own_to (V := T110.setTop (mkF m 57 #[sR oa, sI 0, sI 2, sI 4, sI 2] [(.ref oo110)])) ?_ fun t k => (by
    refine XS.goto X110.here hx rfl (pc0 := 44) (pc' := 57) rfl (hb hby d10_44) (by decide) (by decide) ?_
    exact k)
  exact own_retR X110 hx hret (by decide) rfl hlk (hb hby d10_57) (by rw [e110]; exact (⟨oo110, ou110, rfl, N110, KK110, g110_0⟩)) (by decide) (by decide)
def own_Qtos02 (Z : State) (ow oa ua : Addr) (c0 c1 c2 c3 : Int32) (h0 : Heap) (n0 : Nat) (v : Option Value) (h : Heap) (L : List Loc) : Prop := (∃ (oo : Addr) (ou : Addr), v = some (.ref oo) ∧ Fr n0 L ∧ Keep h0 h [] ∧ (own_Str Z h oo ou ([c0, c1] : List Int32)))
theorem own_ef_tos02 (m : MethodId) (ow : Addr)  : entryFrame m #[(.ref ow)] 1 = mkF m 0 #[sR ow] [] := by first | (simp [entryFrame, mkF, argsToLocals, Value.category]; done) | rfl
theorem own_rmtos02 (l : Launch) (Z : State) (a0 : Array Value) (hw : ∀ d ∈ tables_1, d.before a0 Z = true) (hst : own_St Z) (ws : List Jvm.Cond) (ow oa ua : Addr) (c0 c1 c2 c3 : Int32) (h0 : Heap) (n0 : Nat) (X00 : Old Z n0 h0) (l0 : ¬ c0 < 0 ∧ ¬ (255 : Int32) < c0) (l1 : ¬ c1 < 0 ∧ ¬ (255 : Int32) < c1) (l2 : ¬ c2 < 0 ∧ ¬ (255 : Int32) < c2) (l3 : ¬ c3 < 0 ∧ ¬ (255 : Int32) < c3) (hE : Exa Z h0 ow nm1) (f1 : Fld Z h0 ow nm1 "text" nm2 (.ref oa)) (f2 : Fld Z h0 ow nm1 "start" "I" (.int 0)) (f3 : Fld Z h0 ow nm1 "end" "I" (.int 2)) (hS : own_Str Z h0 oa ua ([c0, c1, c2, c3] : List Int32)) :
    own_MF l own_mn12 prog_77_method_5_code 1 (Option.some (Jvm.ClassFile.FieldType.object "java/lang/String")) ws (own_R 5 2 6 80) #[(.ref ow)] Z h0 (own_Qtos02 Z ow oa ua c0 c1 c2 c3 h0 n0) := by
  refine own_body (plainFor_of_name own_pn4) (fun m => own_ef_tos02 m ow ) ?_
  intro p e s m below meth c s₁ hx hby hret hlk hml hZ hown hnm hh X0 e0
  have N0 := Fr.nil n0
  have KK0 : Keep h0 h0 [] := Keep.refl h0 _
  obtain ⟨⟨G1, O2, P5⟩, ⟨G3, O4, rG3⟩, -⟩ := id hst
  refine own_to (V := s₁.setTop (mkF m 1 #[sR ow] [(.ref ow)])) ?_ fun t k => (by
    refine XS.aloadN X0.here hx rfl (hb hby d11_0) rfl rfl ?_
    exact k)
  obtain ⟨T101, X101, e101, st101⟩ := getF X0 hx hZ hown (host := "") (Or.inl (own_i hw 50 rfl)) Via.refl e0 f1 (g := (mkF m 1 #[sR ow] [(.ref ow)])) rfl rfl (hb hby d11_1)
  refine own_to ?_ st101
  refine own_to (V := T101.setTop (mkF m 5 #[sR ow] [(.ref ow), (.ref oa)])) ?_ fun t k => (by
    refine XS.aloadN X101.here hx rfl (hb hby d11_4) rfl rfl ?_
    exact k)
  obtain ⟨T102, X102, e102, st102⟩ := getF X101 hx hZ hown (host := "") (Or.inl (own_i hw 52 rfl)) Via.refl e101 f2 (g := (mkF m 5 #[sR ow] [(.ref ow), (.ref oa)])) rfl rfl (hb hby d11_5)
  refine own_to ?_ st102
  refine own_to (V := T102.setTop (mkF m 9 #[sR ow] [(.ref ow), (.int 0), (.ref oa)])) ?_ fun t k => (by
    refine XS.aloadN X102.here hx rfl (hb hby d11_8) rfl rfl ?_
    exact k)
  obtain ⟨T103, X103, e103, st103⟩ := getF X102 hx hZ hown (host := "") (Or.inl (own_i hw 54 rfl)) Via.refl e102 f3 (g := (mkF m 9 #[sR ow] [(.ref ow), (.int 0), (.ref oa)])) rfl rfl (hb hby d11_9)
  refine own_to ?_ st103
  obtain ⟨_, T104, h104, L104, Lc104, X104, e104, hQ104, l104, st104⟩ := own_cV (own_rmsub4_0_2 l Z a0 hw hst [] oa ua c0 c1 c2 c3 h0 n0 X00 l0 l1 l2 l3 hS) X103 hx hZ hown e103 hS.1 (own_i hw 61 rfl) (own_i hw 62 rfl) (notFace_of_selects (args := #[]) (mvT hZ (own_i hw 64 rfl))) (own_i hw 64 rfl) (own_i hw 63 rfl) (own_i hw 3 rfl) (own_i hw 65 rfl) (by decide) (g := (mkF m 12 #[sR ow] [(.int 2), (.int 0), (.ref oa)])) rfl (by rw [hml]; rfl) (argsL := [(.int 0), (.int 2)]) (rest := []) (lenOf own_pd6 rfl) rfl rfl (hb hby d11_12) (W := 0) (Nat.le_of_eq rfl) (K := 2) (N := 6) rfl rfl (by decide) (by decide) (by decide) (by decide)
  obtain ⟨oo104, ou104, hv104, N104q, K104, g104_0⟩ := hQ104
  subst hv104
  have Xo104 := X00.keep K104 all0
  have KK104 := KK0.trans K104 all0
  have N104 := l104 _ N0 N104q
  refine own_to ?_ st104
  exact own_retR X104 hx hret (by decide) rfl hlk (hb hby d11_15) (by rw [e104]; exact (⟨oo104, ou104, rfl, N104, KK104, g104_0⟩)) (by decide) (by decide)
def own_Qsm200 (Z : State) (oa ua ob : Addr) (kb : ClassId) (c0 c1 c2 c3 : Int32) (h0 : Heap) (n0 : Nat) (v : Option Value) (h : Heap) (L : List Loc) : Prop := (v = some (.int 1) ∧ Fr n0 L ∧ Keep h0 h [])
theorem own_ef_sm200 (m : MethodId) (oa : Addr) (ob : Addr)  : entryFrame m #[(.ref oa), (.int 0), (.ref ob), (.int 0), (.int 2)] 5 = mkF m 0 #[sR oa, sI 0, sR ob, sI 0, sI 2] [] := by first | (simp [entryFrame, mkF, argsToLocals, Value.category]; done) | rfl
theorem own_rmsm200 (l : Launch) (Z : State) (a0 : Array Value) (hw : ∀ d ∈ tables_1, d.before a0 Z = true) (hst : own_St Z) (ws : List Jvm.Cond) (oa ua ob : Addr) (kb : ClassId) (c0 c1 c2 c3 : Int32) (h0 : Heap) (n0 : Nat) (X00 : Old Z n0 h0) (l0 : ¬ c0 < 0 ∧ ¬ (255 : Int32) < c0) (l1 : ¬ c1 < 0 ∧ ¬ (255 : Int32) < c1) (l2 : ¬ c2 < 0 ∧ ¬ (255 : Int32) < c2) (l3 : ¬ c3 < 0 ∧ ¬ (255 : Int32) < c3) (hS : own_Str Z h0 oa ua ([c0, c1] : List Int32)) (hA : Arv Z h0 ob kb .char (4 : Int32) [(.int c0), (.int c1), (.int c2), (.int c3)] (.int (0 : Int32))) :
    own_MF l own_mn15 method_2_code 5 (Option.some Jvm.ClassFile.FieldType.boolean) ws (own_R 4 0 0 53) #[(.ref oa), (.int 0), (.ref ob), (.int 0), (.int 2)] Z h0 (own_Qsm200 Z oa ua ob kb c0 c1 c2 c3 h0 n0) := by
  refine own_body (plainFor_of_name own_pn6) (fun m => own_ef_sm200 m oa ob ) ?_
  intro p e s m below meth c s₁ hx hby hret hlk hml hZ hown hnm hh X0 e0
  have N0 := Fr.nil n0
  have KK0 : Keep h0 h0 [] := Keep.refl h0 _
  obtain ⟨⟨G1, O2, P5⟩, ⟨G3, O4, rG3⟩, -⟩ := id hst
  refine own_to (V := s₁.setTop (mkF m 10 #[sR oa, sI 0, sR ob, sI 0, sI 2] [(.int 0), (.ref oa)])) ?_ fun t k => (by
    refine XS.iloadN X0.here hx rfl (hb hby d14_0) rfl ?_
    refine XS.iload X0.here hx rfl (hb hby d14_1) rfl ?_
    refine XS.icmpYes X0.here hx rfl (pc0 := 3) (pc' := 8) rfl (hb hby d14_3) rfl (tlt ((by decide) : (0 : Int32) < (2 : Int32))).1 (by decide) (by decide) ?_
    refine XS.aloadN X0.here hx rfl (hb hby d14_8) rfl rfl ?_
    refine XS.iloadN X0.here hx rfl (hb hby d14_9) rfl ?_
    exact k)
  obtain ⟨sN102, sk102, sv102, sE102, sV102, sC102, sK102, sc102, sb102, sl102⟩ := own_Str.latin hS (own_lat2 (own_allS l0 (own_allS l1 own_all0)))
  obtain ⟨cq101, kq101, q101a, q101b, q101c⟩ := isOf hZ e0 hS.1
  obtain ⟨_, _, ⟨T101, L101, k101, n101⟩, -, X101, ⟨Lc101, hQ101, l101, y101, z101⟩, st101⟩ := X0.virtualBack hx (y := own_mn16) (z := own_mn16) hown (mvT hZ (own_i hw 117 rfl)) (mvT hZ (own_i hw 118 rfl)) (notFace_of_selects (args := #[]) (mvT hZ (own_i hw 120 rfl))) (mvT hZ (own_i hw 120 rfl)) (mvT hZ (own_i hw 119 rfl)) (by decide) (StrChars.Road.chN (W := 0) hZ (own_hch hw) (kI := 4) (own_i hw 2 rfl) sE102 sV102 sC102 sK102 sc102 sb102 (O2.ext X00.2) P5 (O4.ext X00.2) rG3 sl102 (i := 0) (Nat.le_of_ble_eq_true rfl) (j := (0 : Int32)) rfl (by decide) (by decide)) q101a q101c (g := (mkF m 10 #[sR oa, sI 0, sR ob, sI 0, sI 2] [(.int 0), (.ref oa)])) rfl (by rw [hml]; rfl) (Steps.refl _) (argsL := [(.int 0)]) (rest := []) (lenOf own_pd11 rfl) rfl (by show 2 * 0 + _ ≤ _; exact Nat.le_of_eq rfl) (hb hby d14_10) (fun _ _ => ⟨rfl, e0, (by decide : 0 + 0 ≤ _), (by decide : 0 + 0 ≤ _)⟩)
  dsimp only [own_R, Pt.U, Pt.locs, Pt.cells, Pt.slots] at X101 l101 y101 z101 st101 hQ101
  subst y101 z101
  obtain ⟨hv101, hL101, hh101⟩ := hQ101
  subst hL101
  have N101 : Fr n0 L101 := by rw [l101]; exact Fr.app N0 (Fr.nil n0)
  subst hv101
  refine own_to ?_ (fun t k => st101.trans k)
  refine own_to (V := T101.setTop (mkF m 17 #[sR oa, sI 0, sR ob, sI 0, sI 2] [(.int 0), (.ref ob), (.int c0)])) ?_ fun t k => (by
    refine XS.aloadN X101.here hx rfl (hb hby d14_13) rfl rfl ?_
    refine XS.iloadN X101.here hx rfl (hb hby d14_14) rfl ?_
    refine XS.iloadN X101.here hx rfl (hb hby d14_15) rfl ?_
    refine XS.iadd X101.here hx rfl (hb hby d14_16) rfl ?_
    exact k)
  obtain ⟨cl103, Ar103, q103, S103, M103, H103, G103⟩ := id hA
  have hin103 : ¬ ((0 : Int32) < 0 ∨ cl103.slots.size ≤ ((0 : Int32)).toNatClampNeg) := inb_of S103 ⟨by decide, by decide⟩
  refine own_to (V := T101.setTop (mkF m 18 #[sR oa, sI 0, sR ob, sI 0, sI 2] [(.int c0), (.int c0)])) ?_ (fun t k => X101.caload hx (j := (0 : Int32)) (v := (.int c0)) (by rw [hh101]; exact Ar103.1) (State.isArrayOf_alike hZ.alike Ar103.2.1) Ar103.2.2 hin103 (Has.at H103 hin103 rfl) (g := (mkF m 17 #[sR oa, sI 0, sR ob, sI 0, sI 2] [(.int 0), (.ref ob), (.int c0)])) rfl rfl (hb hby d14_17) t k)
  refine own_to (V := T101.setTop (mkF m 26 #[sR oa, sI 0, sR ob, sI 0, sI 2] [(.int 1)])) ?_ fun t k => (by
    refine XS.icmpNo X101.here hx rfl (hb hby d14_18) rfl (teq (rfl : c0 = c0)).2 ?_
    refine XS.iconst X101.here hx rfl (hb hby d14_21) ?_
    refine XS.goto X101.here hx rfl (pc0 := 22) (pc' := 26) rfl (hb hby d14_22) (by decide) (by decide) ?_
    exact k)
  exact own_retN X101 hx (t := .boolean) (w := (1 : Int32)) hret (by decide) rfl hlk (hb hby d14_26) (by rw [hh101]; exact (⟨rfl, N101, KK0⟩)) (by decide) (by decide)
def own_Qsm201 (Z : State) (oa ua ob : Addr) (kb : ClassId) (c0 c1 c2 c3 : Int32) (h0 : Heap) (n0 : Nat) (v : Option Value) (h : Heap) (L : List Loc) : Prop := (v = some (.int 1) ∧ Fr n0 L ∧ Keep h0 h [])
theorem own_ef_sm201 (m : MethodId) (oa : Addr) (ob : Addr)  : entryFrame m #[(.ref oa), (.int 1), (.ref ob), (.int 0), (.int 2)] 5 = mkF m 0 #[sR oa, sI 1, sR ob, sI 0, sI 2] [] := by first | (simp [entryFrame, mkF, argsToLocals, Value.category]; done) | rfl
theorem own_rmsm201 (l : Launch) (Z : State) (a0 : Array Value) (hw : ∀ d ∈ tables_1, d.before a0 Z = true) (hst : own_St Z) (ws : List Jvm.Cond) (oa ua ob : Addr) (kb : ClassId) (c0 c1 c2 c3 : Int32) (h0 : Heap) (n0 : Nat) (X00 : Old Z n0 h0) (l0 : ¬ c0 < 0 ∧ ¬ (255 : Int32) < c0) (l1 : ¬ c1 < 0 ∧ ¬ (255 : Int32) < c1) (l2 : ¬ c2 < 0 ∧ ¬ (255 : Int32) < c2) (l3 : ¬ c3 < 0 ∧ ¬ (255 : Int32) < c3) (hS : own_Str Z h0 oa ua ([c0, c1] : List Int32)) (hA : Arv Z h0 ob kb .char (4 : Int32) [(.int c0), (.int c1), (.int c2), (.int c3)] (.int (0 : Int32))) :
    own_MF l own_mn15 method_2_code 5 (Option.some Jvm.ClassFile.FieldType.boolean) ws (own_R 4 0 0 53) #[(.ref oa), (.int 1), (.ref ob), (.int 0), (.int 2)] Z h0 (own_Qsm201 Z oa ua ob kb c0 c1 c2 c3 h0 n0) := by
  refine own_body (plainFor_of_name own_pn6) (fun m => own_ef_sm201 m oa ob ) ?_
  intro p e s m below meth c s₁ hx hby hret hlk hml hZ hown hnm hh X0 e0
  have N0 := Fr.nil n0
  have KK0 : Keep h0 h0 [] := Keep.refl h0 _
  obtain ⟨⟨G1, O2, P5⟩, ⟨G3, O4, rG3⟩, -⟩ := id hst
  refine own_to (V := s₁.setTop (mkF m 10 #[sR oa, sI 1, sR ob, sI 0, sI 2] [(.int 1), (.ref oa)])) ?_ fun t k => (by
    refine XS.iloadN X0.here hx rfl (hb hby d14_0) rfl ?_
    refine XS.iload X0.here hx rfl (hb hby d14_1) rfl ?_
    refine XS.icmpYes X0.here hx rfl (pc0 := 3) (pc' := 8) rfl (hb hby d14_3) rfl (tlt ((by decide) : (1 : Int32) < (2 : Int32))).1 (by decide) (by decide) ?_
    refine XS.aloadN X0.here hx rfl (hb hby d14_8) rfl rfl ?_
    refine XS.iloadN X0.here hx rfl (hb hby d14_9) rfl ?_
    exact k)
  obtain ⟨sN102, sk102, sv102, sE102, sV102, sC102, sK102, sc102, sb102, sl102⟩ := own_Str.latin hS (own_lat2 (own_allS l0 (own_allS l1 own_all0)))
  obtain ⟨cq101, kq101, q101a, q101b, q101c⟩ := isOf hZ e0 hS.1
  obtain ⟨_, _, ⟨T101, L101, k101, n101⟩, -, X101, ⟨Lc101, hQ101, l101, y101, z101⟩, st101⟩ := X0.virtualBack hx (y := own_mn16) (z := own_mn16) hown (mvT hZ (own_i hw 117 rfl)) (mvT hZ (own_i hw 118 rfl)) (notFace_of_selects (args := #[]) (mvT hZ (own_i hw 120 rfl))) (mvT hZ (own_i hw 120 rfl)) (mvT hZ (own_i hw 119 rfl)) (by decide) (StrChars.Road.chN (W := 0) hZ (own_hch hw) (kI := 4) (own_i hw 2 rfl) sE102 sV102 sC102 sK102 sc102 sb102 (O2.ext X00.2) P5 (O4.ext X00.2) rG3 sl102 (i := 1) (Nat.le_of_ble_eq_true rfl) (j := (1 : Int32)) rfl (by decide) (by decide)) q101a q101c (g := (mkF m 10 #[sR oa, sI 1, sR ob, sI 0, sI 2] [(.int 1), (.ref oa)])) rfl (by rw [hml]; rfl) (Steps.refl _) (argsL := [(.int 1)]) (rest := []) (lenOf own_pd11 rfl) rfl (by show 2 * 0 + _ ≤ _; exact Nat.le_of_eq rfl) (hb hby d14_10) (fun _ _ => ⟨rfl, e0, (by decide : 0 + 0 ≤ _), (by decide : 0 + 0 ≤ _)⟩)
  dsimp only [own_R, Pt.U, Pt.locs, Pt.cells, Pt.slots] at X101 l101 y101 z101 st101 hQ101
  subst y101 z101
  obtain ⟨hv101, hL101, hh101⟩ := hQ101
  subst hL101
  have N101 : Fr n0 L101 := by rw [l101]; exact Fr.app N0 (Fr.nil n0)
  subst hv101
  refine own_to ?_ (fun t k => st101.trans k)
  refine own_to (V := T101.setTop (mkF m 17 #[sR oa, sI 1, sR ob, sI 0, sI 2] [(.int 1), (.ref ob), (.int c1)])) ?_ fun t k => (by
    refine XS.aloadN X101.here hx rfl (hb hby d14_13) rfl rfl ?_
    refine XS.iloadN X101.here hx rfl (hb hby d14_14) rfl ?_
    refine XS.iloadN X101.here hx rfl (hb hby d14_15) rfl ?_
    refine XS.iadd X101.here hx rfl (hb hby d14_16) rfl ?_
    exact k)
  obtain ⟨cl103, Ar103, q103, S103, M103, H103, G103⟩ := id hA
  have hin103 : ¬ ((1 : Int32) < 0 ∨ cl103.slots.size ≤ ((1 : Int32)).toNatClampNeg) := inb_of S103 ⟨by decide, by decide⟩
  refine own_to (V := T101.setTop (mkF m 18 #[sR oa, sI 1, sR ob, sI 0, sI 2] [(.int c1), (.int c1)])) ?_ (fun t k => X101.caload hx (j := (1 : Int32)) (v := (.int c1)) (by rw [hh101]; exact Ar103.1) (State.isArrayOf_alike hZ.alike Ar103.2.1) Ar103.2.2 hin103 (Has.at H103 hin103 rfl) (g := (mkF m 17 #[sR oa, sI 1, sR ob, sI 0, sI 2] [(.int 1), (.ref ob), (.int c1)])) rfl rfl (hb hby d14_17) t k)
  refine own_to (V := T101.setTop (mkF m 26 #[sR oa, sI 1, sR ob, sI 0, sI 2] [(.int 1)])) ?_ fun t k => (by
    refine XS.icmpNo X101.here hx rfl (hb hby d14_18) rfl (teq (rfl : c1 = c1)).2 ?_
    refine XS.iconst X101.here hx rfl (hb hby d14_21) ?_
    refine XS.goto X101.here hx rfl (pc0 := 22) (pc' := 26) rfl (hb hby d14_22) (by decide) (by decide) ?_
    exact k)
  exact own_retN X101 hx (t := .boolean) (w := (1 : Int32)) hret (by decide) rfl hlk (hb hby d14_26) (by rw [hh101]; exact (⟨rfl, N101, KK0⟩)) (by decide) (by decide)
def own_Qcrb4_0_3 (Z : State) (ob : Addr) (kb : ClassId) (d0 d1 d2 d3 : Int32) (h0 : Heap) (n0 : Nat) (v : Option Value) (h : Heap) (L : List Loc) : Prop := (∃ (oo : Addr) (ko : ClassId), v = some (.ref oo) ∧ Fr n0 L ∧ Keep h0 h [] ∧ (Arv Z h oo ko .byte (3 : Int32) [(.int d0), (.int d1), (.int d2)] (.int (0 : Int32))) ∧ (h0.size ≤ oo))
theorem own_ef_crb4_0_3 (m : MethodId) (ob : Addr)  : entryFrame m #[(.ref ob), (.int 0), (.int 3)] 5 = mkF m 0 #[sR ob, sI 0, sI 3, .unset, .unset] [] := by first | (simp [entryFrame, mkF, argsToLocals, Value.category]; done) | rfl
theorem own_rmcrb4_0_3 (l : Launch) (Z : State) (a0 : Array Value) (hw : ∀ d ∈ tables_1, d.before a0 Z = true) (hst : own_St Z) (ws : List Jvm.Cond) (ob : Addr) (kb : ClassId) (d0 d1 d2 d3 : Int32) (h0 : Heap) (n0 : Nat) (X00 : Old Z n0 h0) (hA : Arv Z h0 ob kb .byte (4 : Int32) [(.int d0), (.int d1), (.int d2), (.int d3)] (.int (0 : Int32))) :
    own_MF l own_mn13 jdk_65_method_133_code 5 (Option.some (Jvm.ClassFile.FieldType.array Jvm.ClassFile.FieldType.byte)) ws (own_R 1 1 3 18) #[(.ref ob), (.int 0), (.int 3)] Z h0 (own_Qcrb4_0_3 Z ob kb d0 d1 d2 d3 h0 n0) := by
  refine own_body (plainFor_of_name own_pn0) (fun m => own_ef_crb4_0_3 m ob ) ?_
  intro p e s m below meth c s₁ hx hby hret hlk hml hZ hown hnm hh X0 e0
  have N0 := Fr.nil n0
  have KK0 : Keep h0 h0 [] := Keep.refl h0 _
  obtain ⟨⟨G1, O2, P5⟩, ⟨G3, O4, rG3⟩, -⟩ := id hst
  refine own_to (V := s₁.setTop (mkF m 2 #[sR ob, sI 0, sI 3, .unset, .unset] [(.int 3), (.int 0)])) ?_ fun t k => (by
    refine XS.iloadN X0.here hx rfl (hb hby d12_0) rfl ?_
    refine XS.iloadN X0.here hx rfl (hb hby d12_1) rfl ?_
    exact k)
  obtain ⟨_, T101, h101, L101, Lc101, X101, e101, hQ101, l101, st101⟩ := own_cS (own_rmckl l Z a0 hw hst [] (0 : Int32) (3 : Int32) h0 n0 X00 (by first | assumption | decide | omega | (simp; done) | rfl)) X0 hx hZ hown e0 (own_i hw 101 rfl) (own_i hw 102 rfl) (own_i hw 96 rfl) (own_i hw 103 rfl) (by decide) (g := (mkF m 2 #[sR ob, sI 0, sI 3, .unset, .unset] [(.int 3), (.int 0)])) rfl (by rw [hml]; rfl) (argsL := [(.int 0), (.int 3)]) (rest := []) (lenOf own_pd7 rfl) rfl rfl (hb hby d12_2) (W := 0) (Nat.le_of_eq rfl) (K := 0) (N := 0) rfl rfl (by decide) (by decide) (by decide) (by decide)
  obtain ⟨hv101, N101q, K101⟩ := hQ101
  subst hv101
  have Xo101 := X00.keep K101 all0
  have KK101 := KK0.trans K101 all0
  have N101 := l101 _ N0 N101q
  refine own_to ?_ st101
  refine own_to (V := T101.setTop (mkF m 10 #[sR ob, sI 0, sI 3, sI 3, .unset] [(.int 3)])) ?_ fun t k => (by
    refine XS.iloadN X101.here hx rfl (hb hby d12_5) rfl ?_
    refine XS.iloadN X101.here hx rfl (hb hby d12_6) rfl ?_
    refine XS.isub X101.here hx rfl (hb hby d12_7) rfl ?_
    refine XS.istoreN X101.here hx rfl (hb hby d12_8) rfl (l' := #[sR ob, sI 0, sI 3, sI 3, .unset]) rfl ?_
    refine XS.iloadN X101.here hx rfl (hb hby d12_9) rfl ?_
    exact k)
  obtain ⟨T102, h102, k102, X102, e102, E102, A102, st102⟩ := newP X101 hx hZ (own_i hw 19 rfl) e101 (g := (mkF m 10 #[sR ob, sI 0, sI 3, sI 3, .unset] [(.int 3)])) rfl (hb hby d12_10) rfl (by decide) (cap := 3) (by decide) (by decide) (by decide) (by decide)
  obtain ⟨b102, g102⟩ : ∃ z, z = h101.size := ⟨_, rfl⟩
  rw [← g102] at A102 st102
  have Xo102 := Xo101.ext E102
  have KK102 := KK101.ext E102
  have ge_b102 := Nat.le_trans (own_ole Xo101) (Nat.le_of_eq g102.symm)
  have sz_b102 := Nat.le_trans KK101.1 (Nat.le_of_eq g102.symm)
  have V102 : Arv Z h102 b102 k102 .byte (3 : Int32) [(.int 0), (.int 0), (.int 0)] (.int (0 : Int32)) := (Arv.new A102 (by decide)).pad (pad_rep [] (.int (0 : Int32)) 3)
  refine own_to ?_ st102
  refine own_to (V := T102.setTop (mkF m 20 #[sR ob, sI 0, sI 3, sI 3, sR b102] [(.ref ob), (.int 0), (.ref b102), (.int 0), (.ref ob)])) ?_ fun t k => (by
    refine XS.astore X102.here hx rfl (hb hby d12_12) rfl rfl (l' := #[sR ob, sI 0, sI 3, sI 3, sR b102]) rfl ?_
    refine XS.aloadN X102.here hx rfl (hb hby d12_14) rfl rfl ?_
    refine XS.iloadN X102.here hx rfl (hb hby d12_15) rfl ?_
    refine XS.aload X102.here hx rfl (hb hby d12_16) rfl rfl ?_
    refine XS.iconst X102.here hx rfl (hb hby d12_18) ?_
    refine XS.aloadN X102.here hx rfl (hb hby d12_19) rfl rfl ?_
    exact k)
  have F103 := ((hA.keep K101 List.not_mem_nil).ext E102)
  obtain ⟨cl104, Ar104, q104, S104, M104, H104, G104⟩ := id F103
  refine own_to (V := T102.setTop (mkF m 21 #[sR ob, sI 0, sI 3, sI 3, sR b102] [(.int 4), (.int 0), (.ref b102), (.int 0), (.ref ob)])) ?_ (fun t k => X102.arraylength hx (by rw [e102]; exact Ar104.1) (State.isArrayOf_alike hZ.alike Ar104.2.1) (g := (mkF m 20 #[sR ob, sI 0, sI 3, sI 3, sR b102] [(.ref ob), (.int 0), (.ref b102), (.int 0), (.ref ob)])) rfl rfl (hb hby d12_20) t (by rw [len_of S104 M104]; exact k))
  refine own_to (V := T102.setTop (mkF m 24 #[sR ob, sI 0, sI 3, sI 3, sR b102] [(.int 3), (.int 4), (.int 0), (.ref b102), (.int 0), (.ref ob)])) ?_ fun t k => (by
    refine XS.iloadN X102.here hx rfl (hb hby d12_21) rfl ?_
    refine XS.isub X102.here hx rfl (hb hby d12_22) rfl ?_
    refine XS.iloadN X102.here hx rfl (hb hby d12_23) rfl ?_
    exact k)
  obtain ⟨_, T105, h105, L105, Lc105, X105, e105, hQ105, l105, st105⟩ := own_cS (own_rmmamin l Z a0 hw hst [] (4 : Int32) (3 : Int32) h102 n0 Xo102 ) X102 hx hZ hown e102 (own_i hw 104 rfl) (own_i hw 32 rfl) (own_i hw 33 rfl) (own_i hw 34 rfl) (by decide) (g := (mkF m 24 #[sR ob, sI 0, sI 3, sI 3, sR b102] [(.int 3), (.int 4), (.int 0), (.ref b102), (.int 0), (.ref ob)])) rfl (by rw [hml]; rfl) (argsL := [(.int 4), (.int 3)]) (rest := [(.int 0), (.ref b102), (.int 0), (.ref ob)]) (lenOf own_pd8 rfl) rfl rfl (hb hby d12_24) (W := 4) (Nat.le_of_eq rfl) (K := 1) (N := 3) rfl rfl (by decide) (by decide) (by decide) (by decide)
  rcases hQ105 with ⟨hv105, N105q, K105, g105_0⟩ | ⟨hv105, N105q, K105, g105_0⟩
  ·skip
   subst hv105
   have Xo105 := Xo102.keep K105 all0
   have KK105 := KK102.trans K105 all0
   have N105 := l105 _ N101 N105q
   exact absurd (by decide) g105_0
  ·skip
   subst hv105
   have Xo105 := Xo102.keep K105 all0
   have KK105 := KK102.trans K105 all0
   have N105 := l105 _ N101 N105q
   refine own_to ?_ st105
   have F107 := (F103.keep K105 List.not_mem_nil)
   have F108 := (V102.keep K105 List.not_mem_nil)
   obtain ⟨T106, h106, L106, X106, e106, N106, K106, V106', st106⟩ := cpA X105 hx hZ hown (own_i hw 105 rfl) (own_i hw 108 rfl) (own_i hw 106 rfl) (own_i hw 107 rfl) e105 (sp := (0 : Int32)) (dp := (0 : Int32)) (nn := (3 : Int32)) (us := [(.int d0), (.int d1), (.int d2)]) F107 F108 (Or.inl ⟨rfl, rfl⟩) (by decide) (by decide) (by decide) (by decide) (by decide) rfl (Nat.le_of_ble_eq_true rfl) N105 ge_b102 (g := (mkF m 27 #[sR ob, sI 0, sI 3, sI 3, sR b102] [(.int 3), (.int 0), (.ref b102), (.int 0), (.ref ob)])) rfl (by rw [hml]; rfl) (rest := []) rfl (hb hby d12_27) (by decide) (W := 0) (by show 2 * 0 + _ ≤ _; exact Nat.le_of_eq rfl) (by decide)
   have Xo106 := Xo105.keep K106 (allS ge_b102 all0)
   have KK106 := KK105.trans K106 (allS (Or.inr sz_b102) all0)
   have V106 : Arv Z h106 b102 k102 .byte (3 : Int32) [(.int d0), (.int d1), (.int d2)] (.int (0 : Int32)) := V106'
   refine own_to ?_ st106
   refine own_to (V := T106.setTop (mkF m 32 #[sR ob, sI 0, sI 3, sI 3, sR b102] [(.ref b102)])) ?_ fun t k => (by
     refine XS.aload X106.here hx rfl (hb hby d12_30) rfl rfl ?_
     exact k)
   exact own_retR X106 hx hret (by decide) rfl hlk (hb hby d12_32) (by rw [e106]; exact (⟨b102, k102, rfl, N106, KK106, V106, sz_b102⟩)) (by decide) (by decide)
def own_Qcor4_0_3 (Z : State) (ob : Addr) (kb : ClassId) (d0 d1 d2 d3 : Int32) (h0 : Heap) (n0 : Nat) (v : Option Value) (h : Heap) (L : List Loc) : Prop := (∃ (oo : Addr) (ko : ClassId), v = some (.ref oo) ∧ Fr n0 L ∧ Keep h0 h [] ∧ (Arv Z h oo ko .byte (3 : Int32) [(.int d0), (.int d1), (.int d2)] (.int (0 : Int32))) ∧ (h0.size ≤ oo))
theorem own_ef_cor4_0_3 (m : MethodId) (ob : Addr)  : entryFrame m #[(.ref ob), (.int 0), (.int 3)] 3 = mkF m 0 #[sR ob, sI 0, sI 3] [] := by first | (simp [entryFrame, mkF, argsToLocals, Value.category]; done) | rfl
theorem own_rmcor4_0_3 (l : Launch) (Z : State) (a0 : Array Value) (hw : ∀ d ∈ tables_1, d.before a0 Z = true) (hst : own_St Z) (ws : List Jvm.Cond) (ob : Addr) (kb : ClassId) (d0 d1 d2 d3 : Int32) (h0 : Heap) (n0 : Nat) (X00 : Old Z n0 h0) (hA : Arv Z h0 ob kb .byte (4 : Int32) [(.int d0), (.int d1), (.int d2), (.int d3)] (.int (0 : Int32))) :
    own_MF l own_mn14 jdk_65_method_132_code 3 (Option.some (Jvm.ClassFile.FieldType.array Jvm.ClassFile.FieldType.byte)) ws (own_R 2 1 3 34) #[(.ref ob), (.int 0), (.int 3)] Z h0 (own_Qcor4_0_3 Z ob kb d0 d1 d2 d3 h0 n0) := by
  refine own_body (plainFor_of_name own_pn0) (fun m => own_ef_cor4_0_3 m ob ) ?_
  intro p e s m below meth c s₁ hx hby hret hlk hml hZ hown hnm hh X0 e0
  have N0 := Fr.nil n0
  have KK0 : Keep h0 h0 [] := Keep.refl h0 _
  obtain ⟨⟨G1, O2, P5⟩, ⟨G3, O4, rG3⟩, -⟩ := id hst
  refine own_to (V := s₁.setTop (mkF m 6 #[sR ob, sI 0, sI 3] [(.ref ob), (.int 3)])) ?_ fun t k => (by
    refine XS.iloadN X0.here hx rfl (hb hby d13_0) rfl ?_
    refine XS.ifNo X0.here hx rfl (hb hby d13_1) rfl ((if0 _ _).trans (teq ((by decide) : (0 : Int32) = (0 : Int32))).2) ?_
    refine XS.iloadN X0.here hx rfl (hb hby d13_4) rfl ?_
    refine XS.aloadN X0.here hx rfl (hb hby d13_5) rfl rfl ?_
    exact k)
  obtain ⟨cl101, Ar101, q101, S101, M101, H101, G101⟩ := id hA
  refine own_to (V := s₁.setTop (mkF m 7 #[sR ob, sI 0, sI 3] [(.int 4), (.int 3)])) ?_ (fun t k => X0.arraylength hx (by rw [e0]; exact Ar101.1) (State.isArrayOf_alike hZ.alike Ar101.2.1) (g := (mkF m 6 #[sR ob, sI 0, sI 3] [(.ref ob), (.int 3)])) rfl rfl (hb hby d13_6) t (by rw [len_of S101 M101]; exact k))
  refine own_to (V := s₁.setTop (mkF m 13 #[sR ob, sI 0, sI 3] [(.int 3), (.int 0), (.ref ob)])) ?_ fun t k => (by
    refine XS.icmpNo X0.here hx rfl (hb hby d13_7) rfl (feq ((by decide) : ¬ ((3 : Int32) = (4 : Int32)))).1 ?_
    refine XS.aloadN X0.here hx rfl (hb hby d13_10) rfl rfl ?_
    refine XS.iloadN X0.here hx rfl (hb hby d13_11) rfl ?_
    refine XS.iloadN X0.here hx rfl (hb hby d13_12) rfl ?_
    exact k)
  obtain ⟨_, T102, h102, L102, Lc102, X102, e102, hQ102, l102, st102⟩ := own_cS (own_rmcrb4_0_3 l Z a0 hw hst [] ob kb d0 d1 d2 d3 h0 n0 X00 hA) X0 hx hZ hown e0 (own_i hw 98 rfl) (own_i hw 99 rfl) (own_i hw 96 rfl) (own_i hw 100 rfl) (by decide) (g := (mkF m 13 #[sR ob, sI 0, sI 3] [(.int 3), (.int 0), (.ref ob)])) rfl (by rw [hml]; rfl) (argsL := [(.ref ob), (.int 0), (.int 3)]) (rest := []) (lenOf own_pd9 rfl) rfl rfl (hb hby d13_13) (W := 0) (Nat.le_of_eq rfl) (K := 1) (N := 3) rfl rfl (by decide) (by decide) (by decide) (by decide)
  obtain ⟨oo102, ko102, hv102, N102q, K102, g102_0, g102_1⟩ := hQ102
  subst hv102
  have Xo102 := X00.keep K102 all0
  have KK102 := KK0.trans K102 all0
  have N102 := l102 _ N0 N102q
  have ge_oo102 := Nat.le_trans (own_ole X00) g102_1
  have sz_oo102 := Nat.le_trans KK0.1 g102_1
  refine own_to ?_ st102
  exact own_retR X102 hx hret (by decide) rfl hlk (hb hby d13_16) (by rw [e102]; exact (⟨oo102, ko102, rfl, N102, KK102, g102_0, sz_oo102⟩)) (by decide) (by decide)
def own_Qnst4_0_3 (Z : State) (ob : Addr) (kb : ClassId) (c0 c1 c2 c3 : Int32) (h0 : Heap) (n0 : Nat) (v : Option Value) (h : Heap) (L : List Loc) : Prop := (∃ (oo : Addr) (ou : Addr), v = some (.ref oo) ∧ Fr n0 L ∧ Keep h0 h [] ∧ (own_Str Z h oo ou ([c0, c1, c2] : List Int32)))
theorem own_ef_nst4_0_3 (m : MethodId) (ob : Addr)  : entryFrame m #[(.ref ob), (.int 0), (.int 3)] 3 = mkF m 0 #[sR ob, sI 0, sI 3] [] := by first | (simp [entryFrame, mkF, argsToLocals, Value.category]; done) | rfl
theorem own_rmnst4_0_3 (l : Launch) (Z : State) (a0 : Array Value) (hw : ∀ d ∈ tables_1, d.before a0 Z = true) (hst : own_St Z) (ws : List Jvm.Cond) (ob : Addr) (kb : ClassId) (c0 c1 c2 c3 : Int32) (h0 : Heap) (n0 : Nat) (X00 : Old Z n0 h0) (l0 : ¬ c0 < 0 ∧ ¬ (255 : Int32) < c0) (l1 : ¬ c1 < 0 ∧ ¬ (255 : Int32) < c1) (l2 : ¬ c2 < 0 ∧ ¬ (255 : Int32) < c2) (l3 : ¬ c3 < 0 ∧ ¬ (255 : Int32) < c3) (hA : Arv Z h0 ob kb .byte (4 : Int32) [(.int (StrChars.lo8 c0)), (.int (StrChars.lo8 c1)), (.int (StrChars.lo8 c2)), (.int (StrChars.lo8 c3))] (.int (0 : Int32))) :
    own_MF l own_mn9 jdk_43_method_47_code 3 (Option.some (Jvm.ClassFile.FieldType.object "java/lang/String")) ws (own_R 3 2 7 50) #[(.ref ob), (.int 0), (.int 3)] Z h0 (own_Qnst4_0_3 Z ob kb c0 c1 c2 c3 h0 n0) := by
  refine own_body (plainFor_of_name own_pn5) (fun m => own_ef_nst4_0_3 m ob ) ?_
  intro p e s m below meth c s₁ hx hby hret hlk hml hZ hown hnm hh X0 e0
  have N0 := Fr.nil n0
  have KK0 : Keep h0 h0 [] := Keep.refl h0 _
  obtain ⟨⟨G1, O2, P5⟩, ⟨G3, O4, rG3⟩, -⟩ := id hst
  refine own_to (V := s₁.setTop (mkF m 7 #[sR ob, sI 0, sI 3] [])) ?_ fun t k => (by
    refine XS.iloadN X0.here hx rfl (hb hby d9_0) rfl ?_
    refine XS.ifYes X0.here hx rfl (pc0 := 1) (pc' := 7) rfl (hb hby d9_1) rfl ((if0 _ _).trans (feq ((by decide) : ¬ ((3 : Int32) = (0 : Int32)))).2) (by decide) (by decide) ?_
    exact k)
  obtain ⟨T101, h101, X101, e101, E101, A101, D101, U101, st101⟩ := newO X0 hx hZ hown (own_i hw 93 rfl) (own_i hw 2 rfl) (own_i hw 3 rfl) e0 (g := (mkF m 7 #[sR ob, sI 0, sI 3] [])) rfl (hb hby d9_7) (by decide) (by decide)
  obtain ⟨b101, g101⟩ : ∃ z, z = h0.size := ⟨_, rfl⟩
  rw [← g101] at A101 D101 U101 st101
  have Xo101 := X00.ext E101
  have KK101 := KK0.ext E101
  have ge_b101 := Nat.le_trans (own_ole X00) (Nat.le_of_eq g101.symm)
  have sz_b101 := Nat.le_trans KK0.1 (Nat.le_of_eq g101.symm)
  have Fi101_27 : Fld Z h101 b101 nm0 "coder" "B" (.int 0) := D101 (Or.inr (own_i hw 27 rfl)) (ty := .byte) (by decide)
  have Fi101_29 : Fld Z h101 b101 nm0 "value" "[B" .null := D101 (Or.inr (own_i hw 29 rfl)) (ty := (.array .byte)) (by decide)
  refine own_to ?_ st101
  refine own_to (V := T101.setTop (mkF m 16 #[sR ob, sI 0, sI 3] [(.int 3), (.int 0), (.ref ob), (.ref b101), (.ref b101)])) ?_ fun t k => (by
    refine XS.dup X101.here hx rfl (hb hby d9_10) rfl rfl ?_
    refine XS.aloadN X101.here hx rfl (hb hby d9_11) rfl rfl ?_
    refine XS.iloadN X101.here hx rfl (hb hby d9_12) rfl ?_
    refine XS.iloadN X101.here hx rfl (hb hby d9_13) rfl ?_
    refine XS.iloadN X101.here hx rfl (hb hby d9_14) rfl ?_
    refine XS.iadd X101.here hx rfl (hb hby d9_15) rfl ?_
    exact k)
  have F103 := (hA.ext E101)
  obtain ⟨_, T102, h102, L102, Lc102, X102, e102, hQ102, l102, st102⟩ := own_cS (own_rmcor4_0_3 l Z a0 hw hst [] ob kb (StrChars.lo8 c0) (StrChars.lo8 c1) (StrChars.lo8 c2) (StrChars.lo8 c3) h101 n0 Xo101 F103) X101 hx hZ hown e101 (own_i hw 94 rfl) (own_i hw 95 rfl) (own_i hw 96 rfl) (own_i hw 97 rfl) (by decide) (g := (mkF m 16 #[sR ob, sI 0, sI 3] [(.int 3), (.int 0), (.ref ob), (.ref b101), (.ref b101)])) rfl (by rw [hml]; rfl) (argsL := [(.ref ob), (.int 0), (.int 3)]) (rest := [(.ref b101), (.ref b101)]) (lenOf own_pd9 rfl) rfl rfl (hb hby d9_16) (W := 2) (Nat.le_of_eq rfl) (K := 2) (N := 7) rfl rfl (by decide) (by decide) (by decide) (by decide)
  obtain ⟨oo102, ko102, hv102, N102q, K102, g102_0, g102_1⟩ := hQ102
  subst hv102
  have Xo102 := Xo101.keep K102 all0
  have KK102 := KK101.trans K102 all0
  have N102 := l102 _ N0 N102q
  have ge_oo102 := Nat.le_trans (own_ole Xo101) g102_1
  have sz_oo102 := Nat.le_trans KK101.1 g102_1
  refine own_to ?_ st102
  refine own_to (V := T102.setTop (mkF m 20 #[sR ob, sI 0, sI 3] [(.int 0), (.ref oo102), (.ref b101), (.ref b101)])) ?_ fun t k => (by
    refine XS.iconst X102.here hx rfl (hb hby d9_19) ?_
    exact k)
  have F105 := (A101.keep K102)
  have F106 := (Fi101_29.keep K102 List.not_mem_nil)
  have F107 := (Fi101_27.keep K102 List.not_mem_nil)
  obtain ⟨_, T104, h104, L104, Lc104, X104, e104, hQ104, l104, st104⟩ := own_cI (own_rmsibb l Z a0 hw hst [] b101 oo102 h102 n0 Xo102 F105 F106 F107 ge_b101) X102 hx hZ hown e102 rfl (own_i hw 109 rfl) (own_i hw 110 rfl) (own_i hw 3 rfl) (own_i hw 111 rfl) (by decide) (g := (mkF m 20 #[sR ob, sI 0, sI 3] [(.int 0), (.ref oo102), (.ref b101), (.ref b101)])) rfl (by rw [hml]; rfl) (argsL := [(.ref oo102), (.int 0)]) (rest := [(.ref b101)]) (lenOf own_pd10 rfl) rfl rfl (hb hby d9_20) (W := 1) (Nat.le_of_eq rfl) (K := 2) (N := 7) rfl rfl (by decide) (by decide) (by decide) (by decide)
  obtain ⟨hv104, N104q, K104, g104_0, g104_1⟩ := hQ104
  subst hv104
  have Xo104 := Xo102.keep K104 (allS ge_b101 all0)
  have KK104 := KK102.trans K104 (allS (Or.inr sz_b101) all0)
  have N104 := l104 _ N102 N104q
  refine own_to ?_ st104
  have F109 := (F105.keep K104)
  have F110 := (g102_0.keep K104 (own_nmS (Ne.symm (Nat.ne_of_lt (Nat.lt_of_lt_of_le A101.lt g102_1))) own_nm0))
  have Fz108 : own_Str Z h104 b101 oo102 ([c0, c1, c2] : List Int32) := own_mkLit F109 g104_0 g104_1 F110 rfl (own_allS l0 (own_allS l1 (own_allS l2 own_all0))) rfl (Nat.le_of_ble_eq_true rfl)
  exact own_retR X104 hx hret (by decide) rfl hlk (hb hby d9_23) (by rw [e104]; exact (⟨b101, oo102, rfl, N104, KK104, Fz108⟩)) (by decide) (by decide)
def own_Qsub4_0_3 (Z : State) (oa ua : Addr) (c0 c1 c2 c3 : Int32) (h0 : Heap) (n0 : Nat) (v : Option Value) (h : Heap) (L : List Loc) : Prop := (∃ (oo : Addr) (ou : Addr), v = some (.ref oo) ∧ Fr n0 L ∧ Keep h0 h [] ∧ (own_Str Z h oo ou ([c0, c1, c2] : List Int32)))
theorem own_ef_sub4_0_3 (m : MethodId) (oa : Addr)  : entryFrame m #[(.ref oa), (.int 0), (.int 3)] 5 = mkF m 0 #[sR oa, sI 0, sI 3, .unset, .unset] [] := by first | (simp [entryFrame, mkF, argsToLocals, Value.category]; done) | rfl
theorem own_rmsub4_0_3 (l : Launch) (Z : State) (a0 : Array Value) (hw : ∀ d ∈ tables_1, d.before a0 Z = true) (hst : own_St Z) (ws : List Jvm.Cond) (oa ua : Addr) (c0 c1 c2 c3 : Int32) (h0 : Heap) (n0 : Nat) (X00 : Old Z n0 h0) (l0 : ¬ c0 < 0 ∧ ¬ (255 : Int32) < c0) (l1 : ¬ c1 < 0 ∧ ¬ (255 : Int32) < c1) (l2 : ¬ c2 < 0 ∧ ¬ (255 : Int32) < c2) (l3 : ¬ c3 < 0 ∧ ¬ (255 : Int32) < c3) (hS : own_Str Z h0 oa ua ([c0, c1, c2, c3] : List Int32)) :
    own_MF l own_mn10 jdk_42_method_92_code 5 (Option.some (Jvm.ClassFile.FieldType.object "java/lang/String")) ws (own_R 4 2 7 64) #[(.ref oa), (.int 0), (.int 3)] Z h0 (own_Qsub4_0_3 Z oa ua c0 c1 c2 c3 h0 n0) := by
  refine own_body (plainFor_of_name own_pn2) (fun m => own_ef_sub4_0_3 m oa ) ?_
  intro p e s m below meth c s₁ hx hby hret hlk hml hZ hown hnm hh X0 e0
  have N0 := Fr.nil n0
  have KK0 : Keep h0 h0 [] := Keep.refl h0 _
  obtain ⟨⟨G1, O2, P5⟩, ⟨G3, O4, rG3⟩, -⟩ := id hst
  obtain ⟨sk101, sE101, sV101, sC101, sK101', sb101⟩ := own_Str.latinL hS (own_lat2 (own_allS l0 (own_allS l1 (own_allS l2 (own_allS l3 own_all0)))))
  have sK101 : Arv Z h0 ua sk101 .byte (4 : Int32) [(.int (StrChars.lo8 c0)), (.int (StrChars.lo8 c1)), (.int (StrChars.lo8 c2)), (.int (StrChars.lo8 c3))] (.int (0 : Int32)) := sK101'
  refine own_to (V := s₁.setTop (mkF m 1 #[sR oa, sI 0, sI 3, .unset, .unset] [(.ref oa)])) ?_ fun t k => (by
    refine XS.aloadN X0.here hx rfl (hb hby d10_0) rfl rfl ?_
    exact k)
  obtain ⟨sE103, sd103, sN103, sk103, sv103, sV103, sC103, sK103, sc103, sb103, sl103⟩ := id hS
  obtain ⟨cq102, kq102, q102a, q102b, q102c⟩ := isOf hZ e0 sE101
  obtain ⟨_, _, ⟨T102, L102, k102, n102⟩, -, X102, ⟨Lc102, hQ102, l102, y102, z102⟩, st102⟩ := X0.virtualBack hx (y := own_mn11) (z := own_mn11) hown (mvT hZ (own_i hw 66 rfl)) (mvT hZ (own_i hw 67 rfl)) (notFace_of_selects (args := #[]) (mvT hZ (own_i hw 69 rfl))) (mvT hZ (own_i hw 69 rfl)) (mvT hZ (own_i hw 68 rfl)) (by decide) (StrChars.Road.lenW (W := 0) hZ (own_hln hw) (kI := 4) (own_i hw 2 rfl) sE103 sV103 sC103 sK103 sc103 sb103 (O2.ext X00.2) P5 sl103 (by decide) (by decide)) q102a q102c (g := (mkF m 1 #[sR oa, sI 0, sI 3, .unset, .unset] [(.ref oa)])) rfl (by rw [hml]; rfl) (Steps.refl _) (argsL := []) (rest := []) (lenOf own_pd2 rfl) rfl (by show 2 * 0 + _ ≤ _; exact Nat.le_of_eq rfl) (hb hby d10_1) (fun _ _ => ⟨rfl, e0, (by decide : 0 + 0 ≤ _), (by decide : 0 + 0 ≤ _)⟩)
  dsimp only [own_R, Pt.U, Pt.locs, Pt.cells, Pt.slots] at X102 l102 y102 z102 st102 hQ102
  subst y102 z102
  obtain ⟨hv102, hL102, hh102⟩ := hQ102
  subst hL102
  have N102 : Fr n0 L102 := by rw [l102]; exact Fr.app N0 (Fr.nil n0)
  subst hv102
  refine own_to ?_ (fun t k => st102.trans k)
  refine own_to (V := T102.setTop (mkF m 8 #[sR oa, sI 0, sI 3, sI 4, .unset] [(.int 4), (.int 3), (.int 0)])) ?_ fun t k => (by
    refine XS.istoreN X102.here hx rfl (hb hby d10_4) rfl (l' := #[sR oa, sI 0, sI 3, sI 4, .unset]) rfl ?_
    refine XS.iloadN X102.here hx rfl (hb hby d10_5) rfl ?_
    refine XS.iloadN X102.here hx rfl (hb hby d10_6) rfl ?_
    refine XS.iloadN X102.here hx rfl (hb hby d10_7) rfl ?_
    exact k)
  obtain ⟨_, T104, h104, L104, Lc104, X104, e104, hQ104, l104, st104⟩ := own_cS (own_rmcbbe l Z a0 hw hst [] (0 : Int32) (3 : Int32) (4 : Int32) h0 n0 X00 (by first | assumption | decide | omega | (simp; done) | rfl) (by first | assumption | decide | omega | (simp; done) | rfl) (by first | assumption | decide | omega | (simp; done) | rfl)) X102 hx hZ hown hh102 (own_i hw 76 rfl) (own_i hw 77 rfl) (own_i hw 3 rfl) (own_i hw 78 rfl) (by decide) (g := (mkF m 8 #[sR oa, sI 0, sI 3, sI 4, .unset] [(.int 4), (.int 3), (.int 0)])) rfl (by rw [hml]; rfl) (argsL := [(.int 0), (.int 3), (.int 4)]) (rest := []) (lenOf own_pd3 rfl) rfl rfl (hb hby d10_8) (W := 0) (Nat.le_of_eq rfl) (K := 0) (N := 0) rfl rfl (by decide) (by decide) (by decide) (by decide)
  obtain ⟨hv104, N104q, K104⟩ := hQ104
  subst hv104
  have Xo104 := X00.keep K104 all0
  have KK104 := KK0.trans K104 all0
  have N104 := l104 _ N102 N104q
  refine own_to ?_ st104
  refine own_to (V := T104.setTop (mkF m 28 #[sR oa, sI 0, sI 3, sI 4, sI 3] [(.ref oa)])) ?_ fun t k => (by
    refine XS.iloadN X104.here hx rfl (hb hby d10_11) rfl ?_
    refine XS.ifNo X104.here hx rfl (hb hby d10_12) rfl ((if0 _ _).trans (teq ((by decide) : (0 : Int32) = (0 : Int32))).2) ?_
    refine XS.iloadN X104.here hx rfl (hb hby d10_15) rfl ?_
    refine XS.iloadN X104.here hx rfl (hb hby d10_16) rfl ?_
    refine XS.icmpYes X104.here hx rfl (pc0 := 17) (pc' := 22) rfl (hb hby d10_17) rfl (feq ((by decide) : ¬ ((3 : Int32) = (4 : Int32)))).2 (by decide) (by decide) ?_
    refine XS.iloadN X104.here hx rfl (hb hby d10_22) rfl ?_
    refine XS.iloadN X104.here hx rfl (hb hby d10_23) rfl ?_
    refine XS.isub X104.here hx rfl (hb hby d10_24) rfl ?_
    refine XS.istore X104.here hx rfl (hb hby d10_25) rfl (l' := #[sR oa, sI 0, sI 3, sI 4, sI 3]) rfl ?_
    refine XS.aloadN X104.here hx rfl (hb hby d10_27) rfl rfl ?_
    exact k)
  have F106 := (sE101.keep K104)
  have F107 := (sC101.keep K104 List.not_mem_nil)
  obtain ⟨_, T105, h105, L105, Lc105, X105, e105, hQ105, l105, st105⟩ := own_cV (own_rmisl1 l Z a0 hw hst [] oa h104 n0 Xo104 F106 F107) X104 hx hZ hown e104 F106 (own_i hw 84 rfl) (own_i hw 85 rfl) (notFace_of_selects (args := #[]) (mvT hZ (own_i hw 87 rfl))) (own_i hw 87 rfl) (own_i hw 86 rfl) (own_i hw 3 rfl) (own_i hw 88 rfl) (by decide) (g := (mkF m 28 #[sR oa, sI 0, sI 3, sI 4, sI 3] [(.ref oa)])) rfl (by rw [hml]; rfl) (argsL := []) (rest := []) (lenOf own_pd4 rfl) rfl rfl (hb hby d10_28) (W := 0) (Nat.le_of_eq rfl) (K := 0) (N := 0) rfl rfl (by decide) (by decide) (by decide) (by decide)
  obtain ⟨hv105, N105q, K105⟩ := hQ105
  subst hv105
  have Xo105 := Xo104.keep K105 all0
  have KK105 := KK104.trans K105 all0
  have N105 := l105 _ N104 N105q
  refine own_to ?_ st105
  refine own_to (V := T105.setTop (mkF m 35 #[sR oa, sI 0, sI 3, sI 4, sI 3] [(.ref oa)])) ?_ fun t k => (by
    refine XS.ifNo X105.here hx rfl (hb hby d10_31) rfl ((if0 _ _).trans (feq ((by decide) : ¬ ((1 : Int32) = (0 : Int32)))).1) ?_
    refine XS.aloadN X105.here hx rfl (hb hby d10_34) rfl rfl ?_
    exact k)
  have F108 := ((sV101.keep K104 List.not_mem_nil).keep K105 List.not_mem_nil)
  obtain ⟨T109, X109, e109, st109⟩ := getF X105 hx hZ hown (host := "") (Or.inl (own_i hw 28 rfl)) Via.refl e105 F108 (g := (mkF m 35 #[sR oa, sI 0, sI 3, sI 4, sI 3] [(.ref oa)])) rfl rfl (hb hby d10_35)
  refine own_to ?_ st109
  refine own_to (V := T109.setTop (mkF m 41 #[sR oa, sI 0, sI 3, sI 4, sI 3] [(.int 3), (.int 0), (.ref ua)])) ?_ fun t k => (by
    refine XS.iloadN X109.here hx rfl (hb hby d10_38) rfl ?_
    refine XS.iload X109.here hx rfl (hb hby d10_39) rfl ?_
    exact k)
  have F111 := ((sK101.keep K104 List.not_mem_nil).keep K105 List.not_mem_nil)
  obtain ⟨_, T110, h110, L110, Lc110, X110, e110, hQ110, l110, st110⟩ := own_cS (own_rmnst4_0_3 l Z a0 hw hst [] ua sk101 c0 c1 c2 c3 h105 n0 Xo105 l0 l1 l2 l3 F111) X109 hx hZ hown e109 (own_i hw 89 rfl) (own_i hw 90 rfl) (own_i hw 91 rfl) (own_i hw 92 rfl) (by decide) (g := (mkF m 41 #[sR oa, sI 0, sI 3, sI 4, sI 3] [(.int 3), (.int 0), (.ref ua)])) rfl (by rw [hml]; rfl) (argsL := [(.ref ua), (.int 0), (.int 3)]) (rest := []) (lenOf own_pd5 rfl) rfl rfl (hb hby d10_41) (W := 0) (Nat.le_of_eq rfl) (K := 2) (N := 7) rfl rfl (by decide) (by decide) (by decide) (by decide)
  obtain ⟨oo110, ou110, hv110, N110q, K110, g110_0⟩ := hQ110
  subst hv110
  have Xo110 := Xo105.keep K110 all0
  have KK110 := KK105.trans K110 all0
  have N110 := l110 _ N105 N110q
  refine own_to ?_ st110
  refine own_to (V := T110.setTop (mkF m 57 #[sR oa, sI 0, sI 3, sI 4, sI 3] [(.ref oo110)])) ?_ fun t k => (by
    refine XS.goto X110.here hx rfl (pc0 := 44) (pc' := 57) rfl (hb hby d10_44) (by decide) (by decide) ?_
    exact k)
  exact own_retR X110 hx hret (by decide) rfl hlk (hb hby d10_57) (by rw [e110]; exact (⟨oo110, ou110, rfl, N110, KK110, g110_0⟩)) (by decide) (by decide)
def own_Qtos03 (Z : State) (ow oa ua : Addr) (c0 c1 c2 c3 : Int32) (h0 : Heap) (n0 : Nat) (v : Option Value) (h : Heap) (L : List Loc) : Prop := (∃ (oo : Addr) (ou : Addr), v = some (.ref oo) ∧ Fr n0 L ∧ Keep h0 h [] ∧ (own_Str Z h oo ou ([c0, c1, c2] : List Int32)))
theorem own_ef_tos03 (m : MethodId) (ow : Addr)  : entryFrame m #[(.ref ow)] 1 = mkF m 0 #[sR ow] [] := by first | (simp [entryFrame, mkF, argsToLocals, Value.category]; done) | rfl
theorem own_rmtos03 (l : Launch) (Z : State) (a0 : Array Value) (hw : ∀ d ∈ tables_1, d.before a0 Z = true) (hst : own_St Z) (ws : List Jvm.Cond) (ow oa ua : Addr) (c0 c1 c2 c3 : Int32) (h0 : Heap) (n0 : Nat) (X00 : Old Z n0 h0) (l0 : ¬ c0 < 0 ∧ ¬ (255 : Int32) < c0) (l1 : ¬ c1 < 0 ∧ ¬ (255 : Int32) < c1) (l2 : ¬ c2 < 0 ∧ ¬ (255 : Int32) < c2) (l3 : ¬ c3 < 0 ∧ ¬ (255 : Int32) < c3) (hE : Exa Z h0 ow nm1) (f1 : Fld Z h0 ow nm1 "text" nm2 (.ref oa)) (f2 : Fld Z h0 ow nm1 "start" "I" (.int 0)) (f3 : Fld Z h0 ow nm1 "end" "I" (.int 3)) (hS : own_Str Z h0 oa ua ([c0, c1, c2, c3] : List Int32)) :
    own_MF l own_mn12 prog_77_method_5_code 1 (Option.some (Jvm.ClassFile.FieldType.object "java/lang/String")) ws (own_R 5 2 7 80) #[(.ref ow)] Z h0 (own_Qtos03 Z ow oa ua c0 c1 c2 c3 h0 n0) := by
  refine own_body (plainFor_of_name own_pn4) (fun m => own_ef_tos03 m ow ) ?_
  intro p e s m below meth c s₁ hx hby hret hlk hml hZ hown hnm hh X0 e0
  have N0 := Fr.nil n0
  have KK0 : Keep h0 h0 [] := Keep.refl h0 _
  obtain ⟨⟨G1, O2, P5⟩, ⟨G3, O4, rG3⟩, -⟩ := id hst
  refine own_to (V := s₁.setTop (mkF m 1 #[sR ow] [(.ref ow)])) ?_ fun t k => (by
    refine XS.aloadN X0.here hx rfl (hb hby d11_0) rfl rfl ?_
    exact k)
  obtain ⟨T101, X101, e101, st101⟩ := getF X0 hx hZ hown (host := "") (Or.inl (own_i hw 50 rfl)) Via.refl e0 f1 (g := (mkF m 1 #[sR ow] [(.ref ow)])) rfl rfl (hb hby d11_1)
  refine own_to ?_ st101
  refine own_to (V := T101.setTop (mkF m 5 #[sR ow] [(.ref ow), (.ref oa)])) ?_ fun t k => (by
    refine XS.aloadN X101.here hx rfl (hb hby d11_4) rfl rfl ?_
    exact k)
  obtain ⟨T102, X102, e102, st102⟩ := getF X101 hx hZ hown (host := "") (Or.inl (own_i hw 52 rfl)) Via.refl e101 f2 (g := (mkF m 5 #[sR ow] [(.ref ow), (.ref oa)])) rfl rfl (hb hby d11_5)
  refine own_to ?_ st102
  refine own_to (V := T102.setTop (mkF m 9 #[sR ow] [(.ref ow), (.int 0), (.ref oa)])) ?_ fun t k => (by
    refine XS.aloadN X102.here hx rfl (hb hby d11_8) rfl rfl ?_
    exact k)
  obtain ⟨T103, X103, e103, st103⟩ := getF X102 hx hZ hown (host := "") (Or.inl (own_i hw 54 rfl)) Via.refl e102 f3 (g := (mkF m 9 #[sR ow] [(.ref ow), (.int 0), (.ref oa)])) rfl rfl (hb hby d11_9)
  refine own_to ?_ st103
  obtain ⟨_, T104, h104, L104, Lc104, X104, e104, hQ104, l104, st104⟩ := own_cV (own_rmsub4_0_3 l Z a0 hw hst [] oa ua c0 c1 c2 c3 h0 n0 X00 l0 l1 l2 l3 hS) X103 hx hZ hown e103 hS.1 (own_i hw 61 rfl) (own_i hw 62 rfl) (notFace_of_selects (args := #[]) (mvT hZ (own_i hw 64 rfl))) (own_i hw 64 rfl) (own_i hw 63 rfl) (own_i hw 3 rfl) (own_i hw 65 rfl) (by decide) (g := (mkF m 12 #[sR ow] [(.int 3), (.int 0), (.ref oa)])) rfl (by rw [hml]; rfl) (argsL := [(.int 0), (.int 3)]) (rest := []) (lenOf own_pd6 rfl) rfl rfl (hb hby d11_12) (W := 0) (Nat.le_of_eq rfl) (K := 2) (N := 7) rfl rfl (by decide) (by decide) (by decide) (by decide)
  obtain ⟨oo104, ou104, hv104, N104q, K104, g104_0⟩ := hQ104
  subst hv104
  have Xo104 := X00.keep K104 all0
  have KK104 := KK0.trans K104 all0
  have N104 := l104 _ N0 N104q
  refine own_to ?_ st104
  exact own_retR X104 hx hret (by decide) rfl hlk (hb hby d11_15) (by rw [e104]; exact (⟨oo104, ou104, rfl, N104, KK104, g104_0⟩)) (by decide) (by decide)
def own_Qsm300 (Z : State) (oa ua ob : Addr) (kb : ClassId) (c0 c1 c2 c3 : Int32) (h0 : Heap) (n0 : Nat) (v : Option Value) (h : Heap) (L : List Loc) : Prop := (v = some (.int 1) ∧ Fr n0 L ∧ Keep h0 h [])
theorem own_ef_sm300 (m : MethodId) (oa : Addr) (ob : Addr)  : entryFrame m #[(.ref oa), (.int 0), (.ref ob), (.int 0), (.int 3)] 5 = mkF m 0 #[sR oa, sI 0, sR ob, sI 0, sI 3] [] := by first | (simp [entryFrame, mkF, argsToLocals, Value.category]; done) | rfl
theorem own_rmsm300 (l : Launch) (Z : State) (a0 : Array Value) (hw : ∀ d ∈ tables_1, d.before a0 Z = true) (hst : own_St Z) (ws : List Jvm.Cond) (oa ua ob : Addr) (kb : ClassId) (c0 c1 c2 c3 : Int32) (h0 : Heap) (n0 : Nat) (X00 : Old Z n0 h0) (l0 : ¬ c0 < 0 ∧ ¬ (255 : Int32) < c0) (l1 : ¬ c1 < 0 ∧ ¬ (255 : Int32) < c1) (l2 : ¬ c2 < 0 ∧ ¬ (255 : Int32) < c2) (l3 : ¬ c3 < 0 ∧ ¬ (255 : Int32) < c3) (hS : own_Str Z h0 oa ua ([c0, c1, c2] : List Int32)) (hA : Arv Z h0 ob kb .char (4 : Int32) [(.int c0), (.int c1), (.int c2), (.int c3)] (.int (0 : Int32))) :
    own_MF l own_mn15 method_2_code 5 (Option.some Jvm.ClassFile.FieldType.boolean) ws (own_R 4 0 0 53) #[(.ref oa), (.int 0), (.ref ob), (.int 0), (.int 3)] Z h0 (own_Qsm300 Z oa ua ob kb c0 c1 c2 c3 h0 n0) := by
  refine own_body (plainFor_of_name own_pn6) (fun m => own_ef_sm300 m oa ob ) ?_
  intro p e s m below meth c s₁ hx hby hret hlk hml hZ hown hnm hh X0 e0
  have N0 := Fr.nil n0
  have KK0 : Keep h0 h0 [] := Keep.refl h0 _
  obtain ⟨⟨G1, O2, P5⟩, ⟨G3, O4, rG3⟩, -⟩ := id hst
  refine own_to (V := s₁.setTop (mkF m 10 #[sR oa, sI 0, sR ob, sI 0, sI 3] [(.int 0), (.ref oa)])) ?_ fun t k => (by
    refine XS.iloadN X0.here hx rfl (hb hby d14_0) rfl ?_
    refine XS.iload X0.here hx rfl (hb hby d14_1) rfl ?_
    refine XS.icmpYes X0.here hx rfl (pc0 := 3) (pc' := 8) rfl (hb hby d14_3) rfl (tlt ((by decide) : (0 : Int32) < (3 : Int32))).1 (by decide) (by decide) ?_
    refine XS.aloadN X0.here hx rfl (hb hby d14_8) rfl rfl ?_
    refine XS.iloadN X0.here hx rfl (hb hby d14_9) rfl ?_
    exact k)
  obtain ⟨sN102, sk102, sv102, sE102, sV102, sC102, sK102, sc102, sb102, sl102⟩ := own_Str.latin hS (own_lat2 (own_allS l0 (own_allS l1 (own_allS l2 own_all0))))
  obtain ⟨cq101, kq101, q101a, q101b, q101c⟩ := isOf hZ e0 hS.1
  obtain ⟨_, _, ⟨T101, L101, k101, n101⟩, -, X101, ⟨Lc101, hQ101, l101, y101, z101⟩, st101⟩ := X0.virtualBack hx (y := own_mn16) (z := own_mn16) hown (mvT hZ (own_i hw 117 rfl)) (mvT hZ (own_i hw 118 rfl)) (notFace_of_selects (args := #[]) (mvT hZ (own_i hw 120 rfl))) (mvT hZ (own_i hw 120 rfl)) (mvT hZ (own_i hw 119 rfl)) (by decide) (StrChars.Road.chN (W := 0) hZ (own_hch hw) (kI := 4) (own_i hw 2 rfl) sE102 sV102 sC102 sK102 sc102 sb102 (O2.ext X00.2) P5 (O4.ext X00.2) rG3 sl102 (i := 0) (Nat.le_of_ble_eq_true rfl) (j := (0 : Int32)) rfl (by decide) (by decide)) q101a q101c (g := (mkF m 10 #[sR oa, sI 0, sR ob, sI 0, sI 3] [(.int 0), (.ref oa)])) rfl (by rw [hml]; rfl) (Steps.refl _) (argsL := [(.int 0)]) (rest := []) (lenOf own_pd11 rfl) rfl (by show 2 * 0 + _ ≤ _; exact Nat.le_of_eq rfl) (hb hby d14_10) (fun _ _ => ⟨rfl, e0, (by decide : 0 + 0 ≤ _), (by decide : 0 + 0 ≤ _)⟩)
  dsimp only [own_R, Pt.U, Pt.locs, Pt.cells, Pt.slots] at X101 l101 y101 z101 st101 hQ101
  subst y101 z101
  obtain ⟨hv101, hL101, hh101⟩ := hQ101
  subst hL101
  have N101 : Fr n0 L101 := by rw [l101]; exact Fr.app N0 (Fr.nil n0)
  subst hv101
  refine own_to ?_ (fun t k => st101.trans k)
  refine own_to (V := T101.setTop (mkF m 17 #[sR oa, sI 0, sR ob, sI 0, sI 3] [(.int 0), (.ref ob), (.int c0)])) ?_ fun t k => (by
    refine XS.aloadN X101.here hx rfl (hb hby d14_13) rfl rfl ?_
    refine XS.iloadN X101.here hx rfl (hb hby d14_14) rfl ?_
    refine XS.iloadN X101.here hx rfl (hb hby d14_15) rfl ?_
    refine XS.iadd X101.here hx rfl (hb hby d14_16) rfl ?_
    exact k)
  obtain ⟨cl103, Ar103, q103, S103, M103, H103, G103⟩ := id hA
  have hin103 : ¬ ((0 : Int32) < 0 ∨ cl103.slots.size ≤ ((0 : Int32)).toNatClampNeg) := inb_of S103 ⟨by decide, by decide⟩
  refine own_to (V := T101.setTop (mkF m 18 #[sR oa, sI 0, sR ob, sI 0, sI 3] [(.int c0), (.int c0)])) ?_ (fun t k => X101.caload hx (j := (0 : Int32)) (v := (.int c0)) (by rw [hh101]; exact Ar103.1) (State.isArrayOf_alike hZ.alike Ar103.2.1) Ar103.2.2 hin103 (Has.at H103 hin103 rfl) (g := (mkF m 17 #[sR oa, sI 0, sR ob, sI 0, sI 3] [(.int 0), (.ref ob), (.int c0)])) rfl rfl (hb hby d14_17) t k)
  refine own_to (V := T101.setTop (mkF m 26 #[sR oa, sI 0, sR ob, sI 0, sI 3] [(.int 1)])) ?_ fun t k => (by
    refine XS.icmpNo X101.here hx rfl (hb hby d14_18) rfl (teq (rfl : c0 = c0)).2 ?_
    refine XS.iconst X101.here hx rfl (hb hby d14_21) ?_
    refine XS.goto X101.here hx rfl (pc0 := 22) (pc' := 26) rfl (hb hby d14_22) (by decide) (by decide) ?_
    exact k)
  exact own_retN X101 hx (t := .boolean) (w := (1 : Int32)) hret (by decide) rfl hlk (hb hby d14_26) (by rw [hh101]; exact (⟨rfl, N101, KK0⟩)) (by decide) (by decide)
def own_Qsm301 (Z : State) (oa ua ob : Addr) (kb : ClassId) (c0 c1 c2 c3 : Int32) (h0 : Heap) (n0 : Nat) (v : Option Value) (h : Heap) (L : List Loc) : Prop := (v = some (.int 1) ∧ Fr n0 L ∧ Keep h0 h [])
theorem own_ef_sm301 (m : MethodId) (oa : Addr) (ob : Addr)  : entryFrame m #[(.ref oa), (.int 1), (.ref ob), (.int 0), (.int 3)] 5 = mkF m 0 #[sR oa, sI 1, sR ob, sI 0, sI 3] [] := by first | (simp [entryFrame, mkF, argsToLocals, Value.category]; done) | rfl
theorem own_rmsm301 (l : Launch) (Z : State) (a0 : Array Value) (hw : ∀ d ∈ tables_1, d.before a0 Z = true) (hst : own_St Z) (ws : List Jvm.Cond) (oa ua ob : Addr) (kb : ClassId) (c0 c1 c2 c3 : Int32) (h0 : Heap) (n0 : Nat) (X00 : Old Z n0 h0) (l0 : ¬ c0 < 0 ∧ ¬ (255 : Int32) < c0) (l1 : ¬ c1 < 0 ∧ ¬ (255 : Int32) < c1) (l2 : ¬ c2 < 0 ∧ ¬ (255 : Int32) < c2) (l3 : ¬ c3 < 0 ∧ ¬ (255 : Int32) < c3) (hS : own_Str Z h0 oa ua ([c0, c1, c2] : List Int32)) (hA : Arv Z h0 ob kb .char (4 : Int32) [(.int c0), (.int c1), (.int c2), (.int c3)] (.int (0 : Int32))) :
    own_MF l own_mn15 method_2_code 5 (Option.some Jvm.ClassFile.FieldType.boolean) ws (own_R 4 0 0 53) #[(.ref oa), (.int 1), (.ref ob), (.int 0), (.int 3)] Z h0 (own_Qsm301 Z oa ua ob kb c0 c1 c2 c3 h0 n0) := by
  refine own_body (plainFor_of_name own_pn6) (fun m => own_ef_sm301 m oa ob ) ?_
  intro p e s m below meth c s₁ hx hby hret hlk hml hZ hown hnm hh X0 e0
  have N0 := Fr.nil n0
  have KK0 : Keep h0 h0 [] := Keep.refl h0 _
  obtain ⟨⟨G1, O2, P5⟩, ⟨G3, O4, rG3⟩, -⟩ := id hst
  refine own_to (V := s₁.setTop (mkF m 10 #[sR oa, sI 1, sR ob, sI 0, sI 3] [(.int 1), (.ref oa)])) ?_ fun t k => (by
    refine XS.iloadN X0.here hx rfl (hb hby d14_0) rfl ?_
    refine XS.iload X0.here hx rfl (hb hby d14_1) rfl ?_
    refine XS.icmpYes X0.here hx rfl (pc0 := 3) (pc' := 8) rfl (hb hby d14_3) rfl (tlt ((by decide) : (1 : Int32) < (3 : Int32))).1 (by decide) (by decide) ?_
    refine XS.aloadN X0.here hx rfl (hb hby d14_8) rfl rfl ?_
    refine XS.iloadN X0.here hx rfl (hb hby d14_9) rfl ?_
    exact k)
  obtain ⟨sN102, sk102, sv102, sE102, sV102, sC102, sK102, sc102, sb102, sl102⟩ := own_Str.latin hS (own_lat2 (own_allS l0 (own_allS l1 (own_allS l2 own_all0))))
  obtain ⟨cq101, kq101, q101a, q101b, q101c⟩ := isOf hZ e0 hS.1
  obtain ⟨_, _, ⟨T101, L101, k101, n101⟩, -, X101, ⟨Lc101, hQ101, l101, y101, z101⟩, st101⟩ := X0.virtualBack hx (y := own_mn16) (z := own_mn16) hown (mvT hZ (own_i hw 117 rfl)) (mvT hZ (own_i hw 118 rfl)) (notFace_of_selects (args := #[]) (mvT hZ (own_i hw 120 rfl))) (mvT hZ (own_i hw 120 rfl)) (mvT hZ (own_i hw 119 rfl)) (by decide) (StrChars.Road.chN (W := 0) hZ (own_hch hw) (kI := 4) (own_i hw 2 rfl) sE102 sV102 sC102 sK102 sc102 sb102 (O2.ext X00.2) P5 (O4.ext X00.2) rG3 sl102 (i := 1) (Nat.le_of_ble_eq_true rfl) (j := (1 : Int32)) rfl (by decide) (by decide)) q101a q101c (g := (mkF m 10 #[sR oa, sI 1, sR ob, sI 0, sI 3] [(.int 1), (.ref oa)])) rfl (by rw [hml]; rfl) (Steps.refl _) (argsL := [(.int 1)]) (rest := []) (lenOf own_pd11 rfl) rfl (by show 2 * 0 + _ ≤ _; exact Nat.le_of_eq rfl) (hb hby d14_10) (fun _ _ => ⟨rfl, e0, (by decide : 0 + 0 ≤ _), (by decide : 0 + 0 ≤ _)⟩)
  dsimp only [own_R, Pt.U, Pt.locs, Pt.cells, Pt.slots] at X101 l101 y101 z101 st101 hQ101
  subst y101 z101
  obtain ⟨hv101, hL101, hh101⟩ := hQ101
  subst hL101
  have N101 : Fr n0 L101 := by rw [l101]; exact Fr.app N0 (Fr.nil n0)
  subst hv101
  refine own_to ?_ (fun t k => st101.trans k)
  refine own_to (V := T101.setTop (mkF m 17 #[sR oa, sI 1, sR ob, sI 0, sI 3] [(.int 1), (.ref ob), (.int c1)])) ?_ fun t k => (by
    refine XS.aloadN X101.here hx rfl (hb hby d14_13) rfl rfl ?_
    refine XS.iloadN X101.here hx rfl (hb hby d14_14) rfl ?_
    refine XS.iloadN X101.here hx rfl (hb hby d14_15) rfl ?_
    refine XS.iadd X101.here hx rfl (hb hby d14_16) rfl ?_
    exact k)
  obtain ⟨cl103, Ar103, q103, S103, M103, H103, G103⟩ := id hA
  have hin103 : ¬ ((1 : Int32) < 0 ∨ cl103.slots.size ≤ ((1 : Int32)).toNatClampNeg) := inb_of S103 ⟨by decide, by decide⟩
  refine own_to (V := T101.setTop (mkF m 18 #[sR oa, sI 1, sR ob, sI 0, sI 3] [(.int c1), (.int c1)])) ?_ (fun t k => X101.caload hx (j := (1 : Int32)) (v := (.int c1)) (by rw [hh101]; exact Ar103.1) (State.isArrayOf_alike hZ.alike Ar103.2.1) Ar103.2.2 hin103 (Has.at H103 hin103 rfl) (g := (mkF m 17 #[sR oa, sI 1, sR ob, sI 0, sI 3] [(.int 1), (.ref ob), (.int c1)])) rfl rfl (hb hby d14_17) t k)
  refine own_to (V := T101.setTop (mkF m 26 #[sR oa, sI 1, sR ob, sI 0, sI 3] [(.int 1)])) ?_ fun t k => (by
    refine XS.icmpNo X101.here hx rfl (hb hby d14_18) rfl (teq (rfl : c1 = c1)).2 ?_
    refine XS.iconst X101.here hx rfl (hb hby d14_21) ?_
    refine XS.goto X101.here hx rfl (pc0 := 22) (pc' := 26) rfl (hb hby d14_22) (by decide) (by decide) ?_
    exact k)
  exact own_retN X101 hx (t := .boolean) (w := (1 : Int32)) hret (by decide) rfl hlk (hb hby d14_26) (by rw [hh101]; exact (⟨rfl, N101, KK0⟩)) (by decide) (by decide)
def own_Qsm302 (Z : State) (oa ua ob : Addr) (kb : ClassId) (c0 c1 c2 c3 : Int32) (h0 : Heap) (n0 : Nat) (v : Option Value) (h : Heap) (L : List Loc) : Prop := (v = some (.int 1) ∧ Fr n0 L ∧ Keep h0 h [])
theorem own_ef_sm302 (m : MethodId) (oa : Addr) (ob : Addr)  : entryFrame m #[(.ref oa), (.int 2), (.ref ob), (.int 0), (.int 3)] 5 = mkF m 0 #[sR oa, sI 2, sR ob, sI 0, sI 3] [] := by first | (simp [entryFrame, mkF, argsToLocals, Value.category]; done) | rfl
theorem own_rmsm302 (l : Launch) (Z : State) (a0 : Array Value) (hw : ∀ d ∈ tables_1, d.before a0 Z = true) (hst : own_St Z) (ws : List Jvm.Cond) (oa ua ob : Addr) (kb : ClassId) (c0 c1 c2 c3 : Int32) (h0 : Heap) (n0 : Nat) (X00 : Old Z n0 h0) (l0 : ¬ c0 < 0 ∧ ¬ (255 : Int32) < c0) (l1 : ¬ c1 < 0 ∧ ¬ (255 : Int32) < c1) (l2 : ¬ c2 < 0 ∧ ¬ (255 : Int32) < c2) (l3 : ¬ c3 < 0 ∧ ¬ (255 : Int32) < c3) (hS : own_Str Z h0 oa ua ([c0, c1, c2] : List Int32)) (hA : Arv Z h0 ob kb .char (4 : Int32) [(.int c0), (.int c1), (.int c2), (.int c3)] (.int (0 : Int32))) :
    own_MF l own_mn15 method_2_code 5 (Option.some Jvm.ClassFile.FieldType.boolean) ws (own_R 4 0 0 53) #[(.ref oa), (.int 2), (.ref ob), (.int 0), (.int 3)] Z h0 (own_Qsm302 Z oa ua ob kb c0 c1 c2 c3 h0 n0) := by
  refine own_body (plainFor_of_name own_pn6) (fun m => own_ef_sm302 m oa ob ) ?_
  intro p e s m below meth c s₁ hx hby hret hlk hml hZ hown hnm hh X0 e0
  have N0 := Fr.nil n0
  have KK0 : Keep h0 h0 [] := Keep.refl h0 _
  obtain ⟨⟨G1, O2, P5⟩, ⟨G3, O4, rG3⟩, -⟩ := id hst
  refine own_to (V := s₁.setTop (mkF m 10 #[sR oa, sI 2, sR ob, sI 0, sI 3] [(.int 2), (.ref oa)])) ?_ fun t k => (by
    refine XS.iloadN X0.here hx rfl (hb hby d14_0) rfl ?_
    refine XS.iload X0.here hx rfl (hb hby d14_1) rfl ?_
    refine XS.icmpYes X0.here hx rfl (pc0 := 3) (pc' := 8) rfl (hb hby d14_3) rfl (tlt ((by decide) : (2 : Int32) < (3 : Int32))).1 (by decide) (by decide) ?_
    refine XS.aloadN X0.here hx rfl (hb hby d14_8) rfl rfl ?_
    refine XS.iloadN X0.here hx rfl (hb hby d14_9) rfl ?_
    exact k)
  obtain ⟨sN102, sk102, sv102, sE102, sV102, sC102, sK102, sc102, sb102, sl102⟩ := own_Str.latin hS (own_lat2 (own_allS l0 (own_allS l1 (own_allS l2 own_all0))))
  obtain ⟨cq101, kq101, q101a, q101b, q101c⟩ := isOf hZ e0 hS.1
  obtain ⟨_, _, ⟨T101, L101, k101, n101⟩, -, X101, ⟨Lc101, hQ101, l101, y101, z101⟩, st101⟩ := X0.virtualBack hx (y := own_mn16) (z := own_mn16) hown (mvT hZ (own_i hw 117 rfl)) (mvT hZ (own_i hw 118 rfl)) (notFace_of_selects (args := #[]) (mvT hZ (own_i hw 120 rfl))) (mvT hZ (own_i hw 120 rfl)) (mvT hZ (own_i hw 119 rfl)) (by decide) (StrChars.Road.chN (W := 0) hZ (own_hch hw) (kI := 4) (own_i hw 2 rfl) sE102 sV102 sC102 sK102 sc102 sb102 (O2.ext X00.2) P5 (O4.ext X00.2) rG3 sl102 (i := 2) (Nat.le_of_ble_eq_true rfl) (j := (2 : Int32)) rfl (by decide) (by decide)) q101a q101c (g := (mkF m 10 #[sR oa, sI 2, sR ob, sI 0, sI 3] [(.int 2), (.ref oa)])) rfl (by rw [hml]; rfl) (Steps.refl _) (argsL := [(.int 2)]) (rest := []) (lenOf own_pd11 rfl) rfl (by show 2 * 0 + _ ≤ _; exact Nat.le_of_eq rfl) (hb hby d14_10) (fun _ _ => ⟨rfl, e0, (by decide : 0 + 0 ≤ _), (by decide : 0 + 0 ≤ _)⟩)
  dsimp only [own_R, Pt.U, Pt.locs, Pt.cells, Pt.slots] at X101 l101 y101 z101 st101 hQ101
  subst y101 z101
  obtain ⟨hv101, hL101, hh101⟩ := hQ101
  subst hL101
  have N101 : Fr n0 L101 := by rw [l101]; exact Fr.app N0 (Fr.nil n0)
  subst hv101
  refine own_to ?_ (fun t k => st101.trans k)
  refine own_to (V := T101.setTop (mkF m 17 #[sR oa, sI 2, sR ob, sI 0, sI 3] [(.int 2), (.ref ob), (.int c2)])) ?_ fun t k => (by
    refine XS.aloadN X101.here hx rfl (hb hby d14_13) rfl rfl ?_
    refine XS.iloadN X101.here hx rfl (hb hby d14_14) rfl ?_
    refine XS.iloadN X101.here hx rfl (hb hby d14_15) rfl ?_
    refine XS.iadd X101.here hx rfl (hb hby d14_16) rfl ?_
    exact k)
  obtain ⟨cl103, Ar103, q103, S103, M103, H103, G103⟩ := id hA
  have hin103 : ¬ ((2 : Int32) < 0 ∨ cl103.slots.size ≤ ((2 : Int32)).toNatClampNeg) := inb_of S103 ⟨by decide, by decide⟩
  refine own_to (V := T101.setTop (mkF m 18 #[sR oa, sI 2, sR ob, sI 0, sI 3] [(.int c2), (.int c2)])) ?_ (fun t k => X101.caload hx (j := (2 : Int32)) (v := (.int c2)) (by rw [hh101]; exact Ar103.1) (State.isArrayOf_alike hZ.alike Ar103.2.1) Ar103.2.2 hin103 (Has.at H103 hin103 rfl) (g := (mkF m 17 #[sR oa, sI 2, sR ob, sI 0, sI 3] [(.int 2), (.ref ob), (.int c2)])) rfl rfl (hb hby d14_17) t k)
  refine own_to (V := T101.setTop (mkF m 26 #[sR oa, sI 2, sR ob, sI 0, sI 3] [(.int 1)])) ?_ fun t k => (by
    refine XS.icmpNo X101.here hx rfl (hb hby d14_18) rfl (teq (rfl : c2 = c2)).2 ?_
    refine XS.iconst X101.here hx rfl (hb hby d14_21) ?_
    refine XS.goto X101.here hx rfl (pc0 := 22) (pc' := 26) rfl (hb hby d14_22) (by decide) (by decide) ?_
    exact k)
  exact own_retN X101 hx (t := .boolean) (w := (1 : Int32)) hret (by decide) rfl hlk (hb hby d14_26) (by rw [hh101]; exact (⟨rfl, N101, KK0⟩)) (by decide) (by decide)
def own_Qsub4_0_4 (Z : State) (oa ua : Addr) (c0 c1 c2 c3 : Int32) (h0 : Heap) (n0 : Nat) (v : Option Value) (h : Heap) (L : List Loc) : Prop := (∃ (oo : Addr) (ou : Addr), v = some (.ref oo) ∧ Fr n0 L ∧ Keep h0 h [] ∧ (own_Str Z h oo ou ([c0, c1, c2, c3] : List Int32)))
theorem own_ef_sub4_0_4 (m : MethodId) (oa : Addr)  : entryFrame m #[(.ref oa), (.int 0), (.int 4)] 5 = mkF m 0 #[sR oa, sI 0, sI 4, .unset, .unset] [] := by first | (simp [entryFrame, mkF, argsToLocals, Value.category]; done) | rfl
theorem own_rmsub4_0_4 (l : Launch) (Z : State) (a0 : Array Value) (hw : ∀ d ∈ tables_1, d.before a0 Z = true) (hst : own_St Z) (ws : List Jvm.Cond) (oa ua : Addr) (c0 c1 c2 c3 : Int32) (h0 : Heap) (n0 : Nat) (X00 : Old Z n0 h0) (l0 : ¬ c0 < 0 ∧ ¬ (255 : Int32) < c0) (l1 : ¬ c1 < 0 ∧ ¬ (255 : Int32) < c1) (l2 : ¬ c2 < 0 ∧ ¬ (255 : Int32) < c2) (l3 : ¬ c3 < 0 ∧ ¬ (255 : Int32) < c3) (hS : own_Str Z h0 oa ua ([c0, c1, c2, c3] : List Int32)) :
    own_MF l own_mn10 jdk_42_method_92_code 5 (Option.some (Jvm.ClassFile.FieldType.object "java/lang/String")) ws (own_R 2 0 0 29) #[(.ref oa), (.int 0), (.int 4)] Z h0 (own_Qsub4_0_4 Z oa ua c0 c1 c2 c3 h0 n0) := by
  refine own_body (plainFor_of_name own_pn2) (fun m => own_ef_sub4_0_4 m oa ) ?_
  intro p e s m below meth c s₁ hx hby hret hlk hml hZ hown hnm hh X0 e0
  have N0 := Fr.nil n0
  have KK0 : Keep h0 h0 [] := Keep.refl h0 _
  obtain ⟨⟨G1, O2, P5⟩, ⟨G3, O4, rG3⟩, -⟩ := id hst
  obtain ⟨sk101, sE101, sV101, sC101, sK101', sb101⟩ := own_Str.latinL hS (own_lat2 (own_allS l0 (own_allS l1 (own_allS l2 (own_allS l3 own_all0)))))
  have sK101 : Arv Z h0 ua sk101 .byte (4 : Int32) [(.int (StrChars.lo8 c0)), (.int (StrChars.lo8 c1)), (.int (StrChars.lo8 c2)), (.int (StrChars.lo8 c3))] (.int (0 : Int32)) := sK101'
  refine own_to (V := s₁.setTop (mkF m 1 #[sR oa, sI 0, sI 4, .unset, .unset] [(.ref oa)])) ?_ fun t k => (by
    refine XS.aloadN X0.here hx rfl (hb hby d10_0) rfl rfl ?_
    exact k)
  obtain ⟨sE103, sd103, sN103, sk103, sv103, sV103, sC103, sK103, sc103, sb103, sl103⟩ := id hS
  obtain ⟨cq102, kq102, q102a, q102b, q102c⟩ := isOf hZ e0 sE101
  obtain ⟨_, _, ⟨T102, L102, k102, n102⟩, -, X102, ⟨Lc102, hQ102, l102, y102, z102⟩, st102⟩ := X0.virtualBack hx (y := own_mn11) (z := own_mn11) hown (mvT hZ (own_i hw 66 rfl)) (mvT hZ (own_i hw 67 rfl)) (notFace_of_selects (args := #[]) (mvT hZ (own_i hw 69 rfl))) (mvT hZ (own_i hw 69 rfl)) (mvT hZ (own_i hw 68 rfl)) (by decide) (StrChars.Road.lenW (W := 0) hZ (own_hln hw) (kI := 4) (own_i hw 2 rfl) sE103 sV103 sC103 sK103 sc103 sb103 (O2.ext X00.2) P5 sl103 (by decide) (by decide)) q102a q102c (g := (mkF m 1 #[sR oa, sI 0, sI 4, .unset, .unset] [(.ref oa)])) rfl (by rw [hml]; rfl) (Steps.refl _) (argsL := []) (rest := []) (lenOf own_pd2 rfl) rfl (by show 2 * 0 + _ ≤ _; exact Nat.le_of_eq rfl) (hb hby d10_1) (fun _ _ => ⟨rfl, e0, (by decide : 0 + 0 ≤ _), (by decide : 0 + 0 ≤ _)⟩)
  dsimp only [own_R, Pt.U, Pt.locs, Pt.cells, Pt.slots] at X102 l102 y102 z102 st102 hQ102
  subst y102 z102
  obtain ⟨hv102, hL102, hh102⟩ := hQ102
  subst hL102
  have N102 : Fr n0 L102 := by rw [l102]; exact Fr.app N0 (Fr.nil n0)
  subst hv102
  refine own_to ?_ (fun t k => st102.trans k)
  refine own_to (V := T102.setTop (mkF m 8 #[sR oa, sI 0, sI 4, sI 4, .unset] [(.int 4), (.int 4), (.int 0)])) ?_ fun t k => (by
    refine XS.istoreN X102.here hx rfl (hb hby d10_4) rfl (l' := #[sR oa, sI 0, sI 4, sI 4, .unset]) rfl ?_
    refine XS.iloadN X102.here hx rfl (hb hby d10_5) rfl ?_
    refine XS.iloadN X102.here hx rfl (hb hby d10_6) rfl ?_
    refine XS.iloadN X102.here hx rfl (hb hby d10_7) rfl ?_
    exact k)
  obtain ⟨_, T104, h104, L104, Lc104, X104, e104, hQ104, l104, st104⟩ := own_cS (own_rmcbbe l Z a0 hw hst [] (0 : Int32) (4 : Int32) (4 : Int32) h0 n0 X00 (by first | assumption | decide | omega | (simp; done) | rfl) (by first | assumption | decide | omega | (simp; done) | rfl) (by first | assumption | decide | omega | (simp; done) | rfl)) X102 hx hZ hown hh102 (own_i hw 76 rfl) (own_i hw 77 rfl) (own_i hw 3 rfl) (own_i hw 78 rfl) (by decide) (g := (mkF m 8 #[sR oa, sI 0, sI 4, sI 4, .unset] [(.int 4), (.int 4), (.int 0)])) rfl (by rw [hml]; rfl) (argsL := [(.int 0), (.int 4), (.int 4)]) (rest := []) (lenOf own_pd3 rfl) rfl rfl (hb hby d10_8) (W := 0) (Nat.le_of_eq rfl) (K := 0) (N := 0) rfl rfl (by decide) (by decide) (by decide) (by decide)
  obtain ⟨hv104, N104q, K104⟩ := hQ104
  subst hv104
  have Xo104 := X00.keep K104 all0
  have KK104 := KK0.trans K104 all0
  have N104 := l104 _ N102 N104q
  refine own_to ?_ st104
  refine own_to (V := T104.setTop (mkF m 21 #[sR oa, sI 0, sI 4, sI 4, .unset] [(.ref oa)])) ?_ fun t k => (by
    refine XS.iloadN X104.here hx rfl (hb hby d10_11) rfl ?_
    refine XS.ifNo X104.here hx rfl (hb hby d10_12) rfl ((if0 _ _).trans (teq ((by decide) : (0 : Int32) = (0 : Int32))).2) ?_
    refine XS.iloadN X104.here hx rfl (hb hby d10_15) rfl ?_
    refine XS.iloadN X104.here hx rfl (hb hby d10_16) rfl ?_
    refine XS.icmpNo X104.here hx rfl (hb hby d10_17) rfl (teq ((by decide) : (4 : Int32) = (4 : Int32))).2 ?_
    refine XS.aloadN X104.here hx rfl (hb hby d10_20) rfl rfl ?_
    exact k)
  have F105 := (hS.keep K104 List.not_mem_nil List.not_mem_nil)
  exact own_retR X104 hx hret (by decide) rfl hlk (hb hby d10_21) (by rw [e104]; exact (⟨oa, ua, rfl, N104, KK104, F105⟩)) (by decide) (by decide)
def own_Qtos04 (Z : State) (ow oa ua : Addr) (c0 c1 c2 c3 : Int32) (h0 : Heap) (n0 : Nat) (v : Option Value) (h : Heap) (L : List Loc) : Prop := (∃ (oo : Addr) (ou : Addr), v = some (.ref oo) ∧ Fr n0 L ∧ Keep h0 h [] ∧ (own_Str Z h oo ou ([c0, c1, c2, c3] : List Int32)))
theorem own_ef_tos04 (m : MethodId) (ow : Addr)  : entryFrame m #[(.ref ow)] 1 = mkF m 0 #[sR ow] [] := by first | (simp [entryFrame, mkF, argsToLocals, Value.category]; done) | rfl
theorem own_rmtos04 (l : Launch) (Z : State) (a0 : Array Value) (hw : ∀ d ∈ tables_1, d.before a0 Z = true) (hst : own_St Z) (ws : List Jvm.Cond) (ow oa ua : Addr) (c0 c1 c2 c3 : Int32) (h0 : Heap) (n0 : Nat) (X00 : Old Z n0 h0) (l0 : ¬ c0 < 0 ∧ ¬ (255 : Int32) < c0) (l1 : ¬ c1 < 0 ∧ ¬ (255 : Int32) < c1) (l2 : ¬ c2 < 0 ∧ ¬ (255 : Int32) < c2) (l3 : ¬ c3 < 0 ∧ ¬ (255 : Int32) < c3) (hE : Exa Z h0 ow nm1) (f1 : Fld Z h0 ow nm1 "text" nm2 (.ref oa)) (f2 : Fld Z h0 ow nm1 "start" "I" (.int 0)) (f3 : Fld Z h0 ow nm1 "end" "I" (.int 4)) (hS : own_Str Z h0 oa ua ([c0, c1, c2, c3] : List Int32)) :
    own_MF l own_mn12 prog_77_method_5_code 1 (Option.some (Jvm.ClassFile.FieldType.object "java/lang/String")) ws (own_R 3 0 0 45) #[(.ref ow)] Z h0 (own_Qtos04 Z ow oa ua c0 c1 c2 c3 h0 n0) := by
  refine own_body (plainFor_of_name own_pn4) (fun m => own_ef_tos04 m ow ) ?_
  intro p e s m below meth c s₁ hx hby hret hlk hml hZ hown hnm hh X0 e0
  have N0 := Fr.nil n0
  have KK0 : Keep h0 h0 [] := Keep.refl h0 _
  obtain ⟨⟨G1, O2, P5⟩, ⟨G3, O4, rG3⟩, -⟩ := id hst
  refine own_to (V := s₁.setTop (mkF m 1 #[sR ow] [(.ref ow)])) ?_ fun t k => (by
    refine XS.aloadN X0.here hx rfl (hb hby d11_0) rfl rfl ?_
    exact k)
  obtain ⟨T101, X101, e101, st101⟩ := getF X0 hx hZ hown (host := "") (Or.inl (own_i hw 50 rfl)) Via.refl e0 f1 (g := (mkF m 1 #[sR ow] [(.ref ow)])) rfl rfl (hb hby d11_1)
  refine own_to ?_ st101
  refine own_to (V := T101.setTop (mkF m 5 #[sR ow] [(.ref ow), (.ref oa)])) ?_ fun t k => (by
    refine XS.aloadN X101.here hx rfl (hb hby d11_4) rfl rfl ?_
    exact k)
  obtain ⟨T102, X102, e102, st102⟩ := getF X101 hx hZ hown (host := "") (Or.inl (own_i hw 52 rfl)) Via.refl e101 f2 (g := (mkF m 5 #[sR ow] [(.ref ow), (.ref oa)])) rfl rfl (hb hby d11_5)
  refine own_to ?_ st102
  refine own_to (V := T102.setTop (mkF m 9 #[sR ow] [(.ref ow), (.int 0), (.ref oa)])) ?_ fun t k => (by
    refine XS.aloadN X102.here hx rfl (hb hby d11_8) rfl rfl ?_
    exact k)
  obtain ⟨T103, X103, e103, st103⟩ := getF X102 hx hZ hown (host := "") (Or.inl (own_i hw 54 rfl)) Via.refl e102 f3 (g := (mkF m 9 #[sR ow] [(.ref ow), (.int 0), (.ref oa)])) rfl rfl (hb hby d11_9)
  refine own_to ?_ st103
  obtain ⟨_, T104, h104, L104, Lc104, X104, e104, hQ104, l104, st104⟩ := own_cV (own_rmsub4_0_4 l Z a0 hw hst [] oa ua c0 c1 c2 c3 h0 n0 X00 l0 l1 l2 l3 hS) X103 hx hZ hown e103 hS.1 (own_i hw 61 rfl) (own_i hw 62 rfl) (notFace_of_selects (args := #[]) (mvT hZ (own_i hw 64 rfl))) (own_i hw 64 rfl) (own_i hw 63 rfl) (own_i hw 3 rfl) (own_i hw 65 rfl) (by decide) (g := (mkF m 12 #[sR ow] [(.int 4), (.int 0), (.ref oa)])) rfl (by rw [hml]; rfl) (argsL := [(.int 0), (.int 4)]) (rest := []) (lenOf own_pd6 rfl) rfl rfl (hb hby d11_12) (W := 0) (Nat.le_of_eq rfl) (K := 0) (N := 0) rfl rfl (by decide) (by decide) (by decide) (by decide)
  obtain ⟨oo104, ou104, hv104, N104q, K104, g104_0⟩ := hQ104
  subst hv104
  have Xo104 := X00.keep K104 all0
  have KK104 := KK0.trans K104 all0
  have N104 := l104 _ N0 N104q
  refine own_to ?_ st104
  exact own_retR X104 hx hret (by decide) rfl hlk (hb hby d11_15) (by rw [e104]; exact (⟨oo104, ou104, rfl, N104, KK104, g104_0⟩)) (by decide) (by decide)
def own_Qsm400 (Z : State) (oa ua ob : Addr) (kb : ClassId) (c0 c1 c2 c3 : Int32) (h0 : Heap) (n0 : Nat) (v : Option Value) (h : Heap) (L : List Loc) : Prop := (v = some (.int 1) ∧ Fr n0 L ∧ Keep h0 h [])
theorem own_ef_sm400 (m : MethodId) (oa : Addr) (ob : Addr)  : entryFrame m #[(.ref oa), (.int 0), (.ref ob), (.int 0), (.int 4)] 5 = mkF m 0 #[sR oa, sI 0, sR ob, sI 0, sI 4] [] := by first | (simp [entryFrame, mkF, argsToLocals, Value.category]; done) | rfl
theorem own_rmsm400 (l : Launch) (Z : State) (a0 : Array Value) (hw : ∀ d ∈ tables_1, d.before a0 Z = true) (hst : own_St Z) (ws : List Jvm.Cond) (oa ua ob : Addr) (kb : ClassId) (c0 c1 c2 c3 : Int32) (h0 : Heap) (n0 : Nat) (X00 : Old Z n0 h0) (l0 : ¬ c0 < 0 ∧ ¬ (255 : Int32) < c0) (l1 : ¬ c1 < 0 ∧ ¬ (255 : Int32) < c1) (l2 : ¬ c2 < 0 ∧ ¬ (255 : Int32) < c2) (l3 : ¬ c3 < 0 ∧ ¬ (255 : Int32) < c3) (hS : own_Str Z h0 oa ua ([c0, c1, c2, c3] : List Int32)) (hA : Arv Z h0 ob kb .char (4 : Int32) [(.int c0), (.int c1), (.int c2), (.int c3)] (.int (0 : Int32))) :
    own_MF l own_mn15 method_2_code 5 (Option.some Jvm.ClassFile.FieldType.boolean) ws (own_R 4 0 0 53) #[(.ref oa), (.int 0), (.ref ob), (.int 0), (.int 4)] Z h0 (own_Qsm400 Z oa ua ob kb c0 c1 c2 c3 h0 n0) := by
  refine own_body (plainFor_of_name own_pn6) (fun m => own_ef_sm400 m oa ob ) ?_
  intro p e s m below meth c s₁ hx hby hret hlk hml hZ hown hnm hh X0 e0
  have N0 := Fr.nil n0
  have KK0 : Keep h0 h0 [] := Keep.refl h0 _
  obtain ⟨⟨G1, O2, P5⟩, ⟨G3, O4, rG3⟩, -⟩ := id hst
  refine own_to (V := s₁.setTop (mkF m 10 #[sR oa, sI 0, sR ob, sI 0, sI 4] [(.int 0), (.ref oa)])) ?_ fun t k => (by
    refine XS.iloadN X0.here hx rfl (hb hby d14_0) rfl ?_
    refine XS.iload X0.here hx rfl (hb hby d14_1) rfl ?_
    refine XS.icmpYes X0.here hx rfl (pc0 := 3) (pc' := 8) rfl (hb hby d14_3) rfl (tlt ((by decide) : (0 : Int32) < (4 : Int32))).1 (by decide) (by decide) ?_
    refine XS.aloadN X0.here hx rfl (hb hby d14_8) rfl rfl ?_
    refine XS.iloadN X0.here hx rfl (hb hby d14_9) rfl ?_
    exact k)
  obtain ⟨sN102, sk102, sv102, sE102, sV102, sC102, sK102, sc102, sb102, sl102⟩ := own_Str.latin hS (own_lat2 (own_allS l0 (own_allS l1 (own_allS l2 (own_allS l3 own_all0)))))
  obtain ⟨cq101, kq101, q101a, q101b, q101c⟩ := isOf hZ e0 hS.1
  obtain ⟨_, _, ⟨T101, L101, k101, n101⟩, -, X101, ⟨Lc101, hQ101, l101, y101, z101⟩, st101⟩ := X0.virtualBack hx (y := own_mn16) (z := own_mn16) hown (mvT hZ (own_i hw 117 rfl)) (mvT hZ (own_i hw 118 rfl)) (notFace_of_selects (args := #[]) (mvT hZ (own_i hw 120 rfl))) (mvT hZ (own_i hw 120 rfl)) (mvT hZ (own_i hw 119 rfl)) (by decide) (StrChars.Road.chN (W := 0) hZ (own_hch hw) (kI := 4) (own_i hw 2 rfl) sE102 sV102 sC102 sK102 sc102 sb102 (O2.ext X00.2) P5 (O4.ext X00.2) rG3 sl102 (i := 0) (Nat.le_of_ble_eq_true rfl) (j := (0 : Int32)) rfl (by decide) (by decide)) q101a q101c (g := (mkF m 10 #[sR oa, sI 0, sR ob, sI 0, sI 4] [(.int 0), (.ref oa)])) rfl (by rw [hml]; rfl) (Steps.refl _) (argsL := [(.int 0)]) (rest := []) (lenOf own_pd11 rfl) rfl (by show 2 * 0 + _ ≤ _; exact Nat.le_of_eq rfl) (hb hby d14_10) (fun _ _ => ⟨rfl, e0, (by decide : 0 + 0 ≤ _), (by decide : 0 + 0 ≤ _)⟩)
  dsimp only [own_R, Pt.U, Pt.locs, Pt.cells, Pt.slots] at X101 l101 y101 z101 st101 hQ101
  subst y101 z101
  obtain ⟨hv101, hL101, hh101⟩ := hQ101
  subst hL101
  have N101 : Fr n0 L101 := by rw [l101]; exact Fr.app N0 (Fr.nil n0)
  subst hv101
  refine own_to ?_ (fun t k => st101.trans k)
  refine own_to (V := T101.setTop (mkF m 17 #[sR oa, sI 0, sR ob, sI 0, sI 4] [(.int 0), (.ref ob), (.int c0)])) ?_ fun t k => (by
    refine XS.aloadN X101.here hx rfl (hb hby d14_13) rfl rfl ?_
    refine XS.iloadN X101.here hx rfl (hb hby d14_14) rfl ?_
    refine XS.iloadN X101.here hx rfl (hb hby d14_15) rfl ?_
    refine XS.iadd X101.here hx rfl (hb hby d14_16) rfl ?_
    exact k)
  obtain ⟨cl103, Ar103, q103, S103, M103, H103, G103⟩ := id hA
  have hin103 : ¬ ((0 : Int32) < 0 ∨ cl103.slots.size ≤ ((0 : Int32)).toNatClampNeg) := inb_of S103 ⟨by decide, by decide⟩
  refine own_to (V := T101.setTop (mkF m 18 #[sR oa, sI 0, sR ob, sI 0, sI 4] [(.int c0), (.int c0)])) ?_ (fun t k => X101.caload hx (j := (0 : Int32)) (v := (.int c0)) (by rw [hh101]; exact Ar103.1) (State.isArrayOf_alike hZ.alike Ar103.2.1) Ar103.2.2 hin103 (Has.at H103 hin103 rfl) (g := (mkF m 17 #[sR oa, sI 0, sR ob, sI 0, sI 4] [(.int 0), (.ref ob), (.int c0)])) rfl rfl (hb hby d14_17) t k)
  refine own_to (V := T101.setTop (mkF m 26 #[sR oa, sI 0, sR ob, sI 0, sI 4] [(.int 1)])) ?_ fun t k => (by
    refine XS.icmpNo X101.here hx rfl (hb hby d14_18) rfl (teq (rfl : c0 = c0)).2 ?_
    refine XS.iconst X101.here hx rfl (hb hby d14_21) ?_
    refine XS.goto X101.here hx rfl (pc0 := 22) (pc' := 26) rfl (hb hby d14_22) (by decide) (by decide) ?_
    exact k)
  exact own_retN X101 hx (t := .boolean) (w := (1 : Int32)) hret (by decide) rfl hlk (hb hby d14_26) (by rw [hh101]; exact (⟨rfl, N101, KK0⟩)) (by decide) (by decide)
def own_Qsm401 (Z : State) (oa ua ob : Addr) (kb : ClassId) (c0 c1 c2 c3 : Int32) (h0 : Heap) (n0 : Nat) (v : Option Value) (h : Heap) (L : List Loc) : Prop := (v = some (.int 1) ∧ Fr n0 L ∧ Keep h0 h [])
theorem own_ef_sm401 (m : MethodId) (oa : Addr) (ob : Addr)  : entryFrame m #[(.ref oa), (.int 1), (.ref ob), (.int 0), (.int 4)] 5 = mkF m 0 #[sR oa, sI 1, sR ob, sI 0, sI 4] [] := by first | (simp [entryFrame, mkF, argsToLocals, Value.category]; done) | rfl
theorem own_rmsm401 (l : Launch) (Z : State) (a0 : Array Value) (hw : ∀ d ∈ tables_1, d.before a0 Z = true) (hst : own_St Z) (ws : List Jvm.Cond) (oa ua ob : Addr) (kb : ClassId) (c0 c1 c2 c3 : Int32) (h0 : Heap) (n0 : Nat) (X00 : Old Z n0 h0) (l0 : ¬ c0 < 0 ∧ ¬ (255 : Int32) < c0) (l1 : ¬ c1 < 0 ∧ ¬ (255 : Int32) < c1) (l2 : ¬ c2 < 0 ∧ ¬ (255 : Int32) < c2) (l3 : ¬ c3 < 0 ∧ ¬ (255 : Int32) < c3) (hS : own_Str Z h0 oa ua ([c0, c1, c2, c3] : List Int32)) (hA : Arv Z h0 ob kb .char (4 : Int32) [(.int c0), (.int c1), (.int c2), (.int c3)] (.int (0 : Int32))) :
    own_MF l own_mn15 method_2_code 5 (Option.some Jvm.ClassFile.FieldType.boolean) ws (own_R 4 0 0 53) #[(.ref oa), (.int 1), (.ref ob), (.int 0), (.int 4)] Z h0 (own_Qsm401 Z oa ua ob kb c0 c1 c2 c3 h0 n0) := by
  refine own_body (plainFor_of_name own_pn6) (fun m => own_ef_sm401 m oa ob ) ?_
  intro p e s m below meth c s₁ hx hby hret hlk hml hZ hown hnm hh X0 e0
  have N0 := Fr.nil n0
  have KK0 : Keep h0 h0 [] := Keep.refl h0 _
  obtain ⟨⟨G1, O2, P5⟩, ⟨G3, O4, rG3⟩, -⟩ := id hst
  refine own_to (V := s₁.setTop (mkF m 10 #[sR oa, sI 1, sR ob, sI 0, sI 4] [(.int 1), (.ref oa)])) ?_ fun t k => (by
    refine XS.iloadN X0.here hx rfl (hb hby d14_0) rfl ?_
    refine XS.iload X0.here hx rfl (hb hby d14_1) rfl ?_
    refine XS.icmpYes X0.here hx rfl (pc0 := 3) (pc' := 8) rfl (hb hby d14_3) rfl (tlt ((by decide) : (1 : Int32) < (4 : Int32))).1 (by decide) (by decide) ?_
    refine XS.aloadN X0.here hx rfl (hb hby d14_8) rfl rfl ?_
    refine XS.iloadN X0.here hx rfl (hb hby d14_9) rfl ?_
    exact k)
  obtain ⟨sN102, sk102, sv102, sE102, sV102, sC102, sK102, sc102, sb102, sl102⟩ := own_Str.latin hS (own_lat2 (own_allS l0 (own_allS l1 (own_allS l2 (own_allS l3 own_all0)))))
  obtain ⟨cq101, kq101, q101a, q101b, q101c⟩ := isOf hZ e0 hS.1
  obtain ⟨_, _, ⟨T101, L101, k101, n101⟩, -, X101, ⟨Lc101, hQ101, l101, y101, z101⟩, st101⟩ := X0.virtualBack hx (y := own_mn16) (z := own_mn16) hown (mvT hZ (own_i hw 117 rfl)) (mvT hZ (own_i hw 118 rfl)) (notFace_of_selects (args := #[]) (mvT hZ (own_i hw 120 rfl))) (mvT hZ (own_i hw 120 rfl)) (mvT hZ (own_i hw 119 rfl)) (by decide) (StrChars.Road.chN (W := 0) hZ (own_hch hw) (kI := 4) (own_i hw 2 rfl) sE102 sV102 sC102 sK102 sc102 sb102 (O2.ext X00.2) P5 (O4.ext X00.2) rG3 sl102 (i := 1) (Nat.le_of_ble_eq_true rfl) (j := (1 : Int32)) rfl (by decide) (by decide)) q101a q101c (g := (mkF m 10 #[sR oa, sI 1, sR ob, sI 0, sI 4] [(.int 1), (.ref oa)])) rfl (by rw [hml]; rfl) (Steps.refl _) (argsL := [(.int 1)]) (rest := []) (lenOf own_pd11 rfl) rfl (by show 2 * 0 + _ ≤ _; exact Nat.le_of_eq rfl) (hb hby d14_10) (fun _ _ => ⟨rfl, e0, (by decide : 0 + 0 ≤ _), (by decide : 0 + 0 ≤ _)⟩)
  dsimp only [own_R, Pt.U, Pt.locs, Pt.cells, Pt.slots] at X101 l101 y101 z101 st101 hQ101
  subst y101 z101
  obtain ⟨hv101, hL101, hh101⟩ := hQ101
  subst hL101
  have N101 : Fr n0 L101 := by rw [l101]; exact Fr.app N0 (Fr.nil n0)
  subst hv101
  refine own_to ?_ (fun t k => st101.trans k)
  refine own_to (V := T101.setTop (mkF m 17 #[sR oa, sI 1, sR ob, sI 0, sI 4] [(.int 1), (.ref ob), (.int c1)])) ?_ fun t k => (by
    refine XS.aloadN X101.here hx rfl (hb hby d14_13) rfl rfl ?_
    refine XS.iloadN X101.here hx rfl (hb hby d14_14) rfl ?_
    refine XS.iloadN X101.here hx rfl (hb hby d14_15) rfl ?_
    refine XS.iadd X101.here hx rfl (hb hby d14_16) rfl ?_
    exact k)
  obtain ⟨cl103, Ar103, q103, S103, M103, H103, G103⟩ := id hA
  have hin103 : ¬ ((1 : Int32) < 0 ∨ cl103.slots.size ≤ ((1 : Int32)).toNatClampNeg) := inb_of S103 ⟨by decide, by decide⟩
  refine own_to (V := T101.setTop (mkF m 18 #[sR oa, sI 1, sR ob, sI 0, sI 4] [(.int c1), (.int c1)])) ?_ (fun t k => X101.caload hx (j := (1 : Int32)) (v := (.int c1)) (by rw [hh101]; exact Ar103.1) (State.isArrayOf_alike hZ.alike Ar103.2.1) Ar103.2.2 hin103 (Has.at H103 hin103 rfl) (g := (mkF m 17 #[sR oa, sI 1, sR ob, sI 0, sI 4] [(.int 1), (.ref ob), (.int c1)])) rfl rfl (hb hby d14_17) t k)
  refine own_to (V := T101.setTop (mkF m 26 #[sR oa, sI 1, sR ob, sI 0, sI 4] [(.int 1)])) ?_ fun t k => (by
    refine XS.icmpNo X101.here hx rfl (hb hby d14_18) rfl (teq (rfl : c1 = c1)).2 ?_
    refine XS.iconst X101.here hx rfl (hb hby d14_21) ?_
    refine XS.goto X101.here hx rfl (pc0 := 22) (pc' := 26) rfl (hb hby d14_22) (by decide) (by decide) ?_
    exact k)
  exact own_retN X101 hx (t := .boolean) (w := (1 : Int32)) hret (by decide) rfl hlk (hb hby d14_26) (by rw [hh101]; exact (⟨rfl, N101, KK0⟩)) (by decide) (by decide)
def own_Qsm402 (Z : State) (oa ua ob : Addr) (kb : ClassId) (c0 c1 c2 c3 : Int32) (h0 : Heap) (n0 : Nat) (v : Option Value) (h : Heap) (L : List Loc) : Prop := (v = some (.int 1) ∧ Fr n0 L ∧ Keep h0 h [])
theorem own_ef_sm402 (m : MethodId) (oa : Addr) (ob : Addr)  : entryFrame m #[(.ref oa), (.int 2), (.ref ob), (.int 0), (.int 4)] 5 = mkF m 0 #[sR oa, sI 2, sR ob, sI 0, sI 4] [] := by first | (simp [entryFrame, mkF, argsToLocals, Value.category]; done) | rfl
theorem own_rmsm402 (l : Launch) (Z : State) (a0 : Array Value) (hw : ∀ d ∈ tables_1, d.before a0 Z = true) (hst : own_St Z) (ws : List Jvm.Cond) (oa ua ob : Addr) (kb : ClassId) (c0 c1 c2 c3 : Int32) (h0 : Heap) (n0 : Nat) (X00 : Old Z n0 h0) (l0 : ¬ c0 < 0 ∧ ¬ (255 : Int32) < c0) (l1 : ¬ c1 < 0 ∧ ¬ (255 : Int32) < c1) (l2 : ¬ c2 < 0 ∧ ¬ (255 : Int32) < c2) (l3 : ¬ c3 < 0 ∧ ¬ (255 : Int32) < c3) (hS : own_Str Z h0 oa ua ([c0, c1, c2, c3] : List Int32)) (hA : Arv Z h0 ob kb .char (4 : Int32) [(.int c0), (.int c1), (.int c2), (.int c3)] (.int (0 : Int32))) :
    own_MF l own_mn15 method_2_code 5 (Option.some Jvm.ClassFile.FieldType.boolean) ws (own_R 4 0 0 53) #[(.ref oa), (.int 2), (.ref ob), (.int 0), (.int 4)] Z h0 (own_Qsm402 Z oa ua ob kb c0 c1 c2 c3 h0 n0) := by
  refine own_body (plainFor_of_name own_pn6) (fun m => own_ef_sm402 m oa ob ) ?_
  intro p e s m below meth c s₁ hx hby hret hlk hml hZ hown hnm hh X0 e0
  have N0 := Fr.nil n0
  have KK0 : Keep h0 h0 [] := Keep.refl h0 _
  obtain ⟨⟨G1, O2, P5⟩, ⟨G3, O4, rG3⟩, -⟩ := id hst
  refine own_to (V := s₁.setTop (mkF m 10 #[sR oa, sI 2, sR ob, sI 0, sI 4] [(.int 2), (.ref oa)])) ?_ fun t k => (by
    refine XS.iloadN X0.here hx rfl (hb hby d14_0) rfl ?_
    refine XS.iload X0.here hx rfl (hb hby d14_1) rfl ?_
    refine XS.icmpYes X0.here hx rfl (pc0 := 3) (pc' := 8) rfl (hb hby d14_3) rfl (tlt ((by decide) : (2 : Int32) < (4 : Int32))).1 (by decide) (by decide) ?_
    refine XS.aloadN X0.here hx rfl (hb hby d14_8) rfl rfl ?_
    refine XS.iloadN X0.here hx rfl (hb hby d14_9) rfl ?_
    exact k)
  obtain ⟨sN102, sk102, sv102, sE102, sV102, sC102, sK102, sc102, sb102, sl102⟩ := own_Str.latin hS (own_lat2 (own_allS l0 (own_allS l1 (own_allS l2 (own_allS l3 own_all0)))))
  obtain ⟨cq101, kq101, q101a, q101b, q101c⟩ := isOf hZ e0 hS.1
  obtain ⟨_, _, ⟨T101, L101, k101, n101⟩, -, X101, ⟨Lc101, hQ101, l101, y101, z101⟩, st101⟩ := X0.virtualBack hx (y := own_mn16) (z := own_mn16) hown (mvT hZ (own_i hw 117 rfl)) (mvT hZ (own_i hw 118 rfl)) (notFace_of_selects (args := #[]) (mvT hZ (own_i hw 120 rfl))) (mvT hZ (own_i hw 120 rfl)) (mvT hZ (own_i hw 119 rfl)) (by decide) (StrChars.Road.chN (W := 0) hZ (own_hch hw) (kI := 4) (own_i hw 2 rfl) sE102 sV102 sC102 sK102 sc102 sb102 (O2.ext X00.2) P5 (O4.ext X00.2) rG3 sl102 (i := 2) (Nat.le_of_ble_eq_true rfl) (j := (2 : Int32)) rfl (by decide) (by decide)) q101a q101c (g := (mkF m 10 #[sR oa, sI 2, sR ob, sI 0, sI 4] [(.int 2), (.ref oa)])) rfl (by rw [hml]; rfl) (Steps.refl _) (argsL := [(.int 2)]) (rest := []) (lenOf own_pd11 rfl) rfl (by show 2 * 0 + _ ≤ _; exact Nat.le_of_eq rfl) (hb hby d14_10) (fun _ _ => ⟨rfl, e0, (by decide : 0 + 0 ≤ _), (by decide : 0 + 0 ≤ _)⟩)
  dsimp only [own_R, Pt.U, Pt.locs, Pt.cells, Pt.slots] at X101 l101 y101 z101 st101 hQ101
  subst y101 z101
  obtain ⟨hv101, hL101, hh101⟩ := hQ101
  subst hL101
  have N101 : Fr n0 L101 := by rw [l101]; exact Fr.app N0 (Fr.nil n0)
  subst hv101
  refine own_to ?_ (fun t k => st101.trans k)
  refine own_to (V := T101.setTop (mkF m 17 #[sR oa, sI 2, sR ob, sI 0, sI 4] [(.int 2), (.ref ob), (.int c2)])) ?_ fun t k => (by
    refine XS.aloadN X101.here hx rfl (hb hby d14_13) rfl rfl ?_
    refine XS.iloadN X101.here hx rfl (hb hby d14_14) rfl ?_
    refine XS.iloadN X101.here hx rfl (hb hby d14_15) rfl ?_
    refine XS.iadd X101.here hx rfl (hb hby d14_16) rfl ?_
    exact k)
  obtain ⟨cl103, Ar103, q103, S103, M103, H103, G103⟩ := id hA
  have hin103 : ¬ ((2 : Int32) < 0 ∨ cl103.slots.size ≤ ((2 : Int32)).toNatClampNeg) := inb_of S103 ⟨by decide, by decide⟩
  refine own_to (V := T101.setTop (mkF m 18 #[sR oa, sI 2, sR ob, sI 0, sI 4] [(.int c2), (.int c2)])) ?_ (fun t k => X101.caload hx (j := (2 : Int32)) (v := (.int c2)) (by rw [hh101]; exact Ar103.1) (State.isArrayOf_alike hZ.alike Ar103.2.1) Ar103.2.2 hin103 (Has.at H103 hin103 rfl) (g := (mkF m 17 #[sR oa, sI 2, sR ob, sI 0, sI 4] [(.int 2), (.ref ob), (.int c2)])) rfl rfl (hb hby d14_17) t k)
  refine own_to (V := T101.setTop (mkF m 26 #[sR oa, sI 2, sR ob, sI 0, sI 4] [(.int 1)])) ?_ fun t k => (by
    refine XS.icmpNo X101.here hx rfl (hb hby d14_18) rfl (teq (rfl : c2 = c2)).2 ?_
    refine XS.iconst X101.here hx rfl (hb hby d14_21) ?_
    refine XS.goto X101.here hx rfl (pc0 := 22) (pc' := 26) rfl (hb hby d14_22) (by decide) (by decide) ?_
    exact k)
  exact own_retN X101 hx (t := .boolean) (w := (1 : Int32)) hret (by decide) rfl hlk (hb hby d14_26) (by rw [hh101]; exact (⟨rfl, N101, KK0⟩)) (by decide) (by decide)
def own_Qsm403 (Z : State) (oa ua ob : Addr) (kb : ClassId) (c0 c1 c2 c3 : Int32) (h0 : Heap) (n0 : Nat) (v : Option Value) (h : Heap) (L : List Loc) : Prop := (v = some (.int 1) ∧ Fr n0 L ∧ Keep h0 h [])
theorem own_ef_sm403 (m : MethodId) (oa : Addr) (ob : Addr)  : entryFrame m #[(.ref oa), (.int 3), (.ref ob), (.int 0), (.int 4)] 5 = mkF m 0 #[sR oa, sI 3, sR ob, sI 0, sI 4] [] := by first | (simp [entryFrame, mkF, argsToLocals, Value.category]; done) | rfl
theorem own_rmsm403 (l : Launch) (Z : State) (a0 : Array Value) (hw : ∀ d ∈ tables_1, d.before a0 Z = true) (hst : own_St Z) (ws : List Jvm.Cond) (oa ua ob : Addr) (kb : ClassId) (c0 c1 c2 c3 : Int32) (h0 : Heap) (n0 : Nat) (X00 : Old Z n0 h0) (l0 : ¬ c0 < 0 ∧ ¬ (255 : Int32) < c0) (l1 : ¬ c1 < 0 ∧ ¬ (255 : Int32) < c1) (l2 : ¬ c2 < 0 ∧ ¬ (255 : Int32) < c2) (l3 : ¬ c3 < 0 ∧ ¬ (255 : Int32) < c3) (hS : own_Str Z h0 oa ua ([c0, c1, c2, c3] : List Int32)) (hA : Arv Z h0 ob kb .char (4 : Int32) [(.int c0), (.int c1), (.int c2), (.int c3)] (.int (0 : Int32))) :
    own_MF l own_mn15 method_2_code 5 (Option.some Jvm.ClassFile.FieldType.boolean) ws (own_R 4 0 0 53) #[(.ref oa), (.int 3), (.ref ob), (.int 0), (.int 4)] Z h0 (own_Qsm403 Z oa ua ob kb c0 c1 c2 c3 h0 n0) := by
  refine own_body (plainFor_of_name own_pn6) (fun m => own_ef_sm403 m oa ob ) ?_
  intro p e s m below meth c s₁ hx hby hret hlk hml hZ hown hnm hh X0 e0
  have N0 := Fr.nil n0
  have KK0 : Keep h0 h0 [] := Keep.refl h0 _
  obtain ⟨⟨G1, O2, P5⟩, ⟨G3, O4, rG3⟩, -⟩ := id hst
  refine own_to (V := s₁.setTop (mkF m 10 #[sR oa, sI 3, sR ob, sI 0, sI 4] [(.int 3), (.ref oa)])) ?_ fun t k => (by
    refine XS.iloadN X0.here hx rfl (hb hby d14_0) rfl ?_
    refine XS.iload X0.here hx rfl (hb hby d14_1) rfl ?_
    refine XS.icmpYes X0.here hx rfl (pc0 := 3) (pc' := 8) rfl (hb hby d14_3) rfl (tlt ((by decide) : (3 : Int32) < (4 : Int32))).1 (by decide) (by decide) ?_
    refine XS.aloadN X0.here hx rfl (hb hby d14_8) rfl rfl ?_
    refine XS.iloadN X0.here hx rfl (hb hby d14_9) rfl ?_
    exact k)
  obtain ⟨sN102, sk102, sv102, sE102, sV102, sC102, sK102, sc102, sb102, sl102⟩ := own_Str.latin hS (own_lat2 (own_allS l0 (own_allS l1 (own_allS l2 (own_allS l3 own_all0)))))
  obtain ⟨cq101, kq101, q101a, q101b, q101c⟩ := isOf hZ e0 hS.1
  obtain ⟨_, _, ⟨T101, L101, k101, n101⟩, -, X101, ⟨Lc101, hQ101, l101, y101, z101⟩, st101⟩ := X0.virtualBack hx (y := own_mn16) (z := own_mn16) hown (mvT hZ (own_i hw 117 rfl)) (mvT hZ (own_i hw 118 rfl)) (notFace_of_selects (args := #[]) (mvT hZ (own_i hw 120 rfl))) (mvT hZ (own_i hw 120 rfl)) (mvT hZ (own_i hw 119 rfl)) (by decide) (StrChars.Road.chN (W := 0) hZ (own_hch hw) (kI := 4) (own_i hw 2 rfl) sE102 sV102 sC102 sK102 sc102 sb102 (O2.ext X00.2) P5 (O4.ext X00.2) rG3 sl102 (i := 3) (Nat.le_of_ble_eq_true rfl) (j := (3 : Int32)) rfl (by decide) (by decide)) q101a q101c (g := (mkF m 10 #[sR oa, sI 3, sR ob, sI 0, sI 4] [(.int 3), (.ref oa)])) rfl (by rw [hml]; rfl) (Steps.refl _) (argsL := [(.int 3)]) (rest := []) (lenOf own_pd11 rfl) rfl (by show 2 * 0 + _ ≤ _; exact Nat.le_of_eq rfl) (hb hby d14_10) (fun _ _ => ⟨rfl, e0, (by decide : 0 + 0 ≤ _), (by decide : 0 + 0 ≤ _)⟩)
  dsimp only [own_R, Pt.U, Pt.locs, Pt.cells, Pt.slots] at X101 l101 y101 z101 st101 hQ101
  subst y101 z101
  obtain ⟨hv101, hL101, hh101⟩ := hQ101
  subst hL101
  have N101 : Fr n0 L101 := by rw [l101]; exact Fr.app N0 (Fr.nil n0)
  subst hv101
  refine own_to ?_ (fun t k => st101.trans k)
  refine own_to (V := T101.setTop (mkF m 17 #[sR oa, sI 3, sR ob, sI 0, sI 4] [(.int 3), (.ref ob), (.int c3)])) ?_ fun t k => (by
    refine XS.aloadN X101.here hx rfl (hb hby d14_13) rfl rfl ?_
    refine XS.iloadN X101.here hx rfl (hb hby d14_14) rfl ?_
    refine XS.iloadN X101.here hx rfl (hb hby d14_15) rfl ?_
    refine XS.iadd X101.here hx rfl (hb hby d14_16) rfl ?_
    exact k)
  obtain ⟨cl103, Ar103, q103, S103, M103, H103, G103⟩ := id hA
  have hin103 : ¬ ((3 : Int32) < 0 ∨ cl103.slots.size ≤ ((3 : Int32)).toNatClampNeg) := inb_of S103 ⟨by decide, by decide⟩
  refine own_to (V := T101.setTop (mkF m 18 #[sR oa, sI 3, sR ob, sI 0, sI 4] [(.int c3), (.int c3)])) ?_ (fun t k => X101.caload hx (j := (3 : Int32)) (v := (.int c3)) (by rw [hh101]; exact Ar103.1) (State.isArrayOf_alike hZ.alike Ar103.2.1) Ar103.2.2 hin103 (Has.at H103 hin103 rfl) (g := (mkF m 17 #[sR oa, sI 3, sR ob, sI 0, sI 4] [(.int 3), (.ref ob), (.int c3)])) rfl rfl (hb hby d14_17) t k)
  refine own_to (V := T101.setTop (mkF m 26 #[sR oa, sI 3, sR ob, sI 0, sI 4] [(.int 1)])) ?_ fun t k => (by
    refine XS.icmpNo X101.here hx rfl (hb hby d14_18) rfl (teq (rfl : c3 = c3)).2 ?_
    refine XS.iconst X101.here hx rfl (hb hby d14_21) ?_
    refine XS.goto X101.here hx rfl (pc0 := 22) (pc' := 26) rfl (hb hby d14_22) (by decide) (by decide) ?_
    exact k)
  exact own_retN X101 hx (t := .boolean) (w := (1 : Int32)) hret (by decide) rfl hlk (hb hby d14_26) (by rw [hh101]; exact (⟨rfl, N101, KK0⟩)) (by decide) (by decide)
def own_Qnst4_1_0 (Z : State) (ob : Addr) (kb : ClassId) (c0 c1 c2 c3 : Int32) (h0 : Heap) (n0 : Nat) (v : Option Value) (h : Heap) (L : List Loc) : Prop := (∃ (oo : Addr) (ou : Addr), v = some (.ref oo) ∧ Fr n0 L ∧ Keep h0 h [] ∧ (own_Str Z h oo ou ([] : List Int32)))
theorem own_ef_nst4_1_0 (m : MethodId) (ob : Addr)  : entryFrame m #[(.ref ob), (.int 1), (.int 0)] 3 = mkF m 0 #[sR ob, sI 1, sI 0] [] := by first | (simp [entryFrame, mkF, argsToLocals, Value.category]; done) | rfl
theorem own_rmnst4_1_0 (l : Launch) (Z : State) (a0 : Array Value) (hw : ∀ d ∈ tables_1, d.before a0 Z = true) (hst : own_St Z) (ws : List Jvm.Cond) (ob : Addr) (kb : ClassId) (c0 c1 c2 c3 : Int32) (h0 : Heap) (n0 : Nat) (X00 : Old Z n0 h0) (l0 : ¬ c0 < 0 ∧ ¬ (255 : Int32) < c0) (l1 : ¬ c1 < 0 ∧ ¬ (255 : Int32) < c1) (l2 : ¬ c2 < 0 ∧ ¬ (255 : Int32) < c2) (l3 : ¬ c3 < 0 ∧ ¬ (255 : Int32) < c3) (hA : Arv Z h0 ob kb .byte (4 : Int32) [(.int (StrChars.lo8 c0)), (.int (StrChars.lo8 c1)), (.int (StrChars.lo8 c2)), (.int (StrChars.lo8 c3))] (.int (0 : Int32))) :
    MetFree l own_mn9 (head1 (Jvm.Cond.code own_mn9 jdk_43_method_47_code 3 (Option.some (Jvm.ClassFile.FieldType.object "java/lang/String")) :: ws) (own_R 0 2 4 0)) (fun a U => a = #[(.ref ob), (.int 1), (.int 0)] ∧ Z.Warmed39 U.vm ∧ U.heap = h0 ∧ CHv Z consts_1 U.vm h0) (fun _ _ _ _ _ => True) (fun _ U o U' => ∃ v L, o = .returned v ∧ own_Qnst4_1_0 Z ob kb c0 c1 c2 c3 h0 n0 v U'.heap L ∧ CHr Z consts_1 U.vm U.heap U'.vm U'.heap ∧ ReturnedEndW U o U' L (own_R 0 2 4 0).cells (own_R 0 2 4 0).slots) := by
  refine MetFree.of_bodySF (plainFor_of_name own_pn5) hisR ?_
  intro p e s m args below meth c s₁ Bd hml0 hP hK
  obtain ⟨rfl, hZ, hh, hCH⟩ := hP
  have hx := Bd.exec
  have hby := Bd.bytes
  have hret := Bd.returns
  have hlk : meth.locks = false := BodyLoose.notSynchronized Bd
  have hml : c.maxLocals = 3 := hml0
  have hown : s.vm.findClass "java/lang/StringLatin1" = some m.cls := findClass_of_methodNamed Bd.named
  have hnm := (name_of_methodNamed Bd.named Bd.method).1
  have X0 : Stand p l e (own_R 0 2 4 0) (s.setVm s.vm) m #[(.ref ob), (.int 1), (.int 0)] below meth c s₁ [] 0 0 := Stand.of_body Bd
  have e0 : s₁.heap = h0 := by rw [← hh, Bd.state]; rfl
  have N0 := Fr.nil n0
  have KK0 : Keep h0 h0 [] := Keep.refl h0 _
  have hS0 : s.Since s.vm 0 := (State.WarmedH.refl s).since 0
  have hk0 : 0 ≤ h0.size := Nat.zero_le _
  have Ch0 : CHr Z consts_1 s.vm h0 s.vm h0 := CHr.refl hCH
  refine own_startH (own_Qnst4_1_0 Z ob kb c0 c1 c2 c3 h0 n0) ?_
  refine own_to (V := s₁.setTop (mkF m 0 #[sR ob, sI 1, sI 0] [])) ?_ (fun t k => castTop (own_ef_nst4_1_0 m ob ) k)
  obtain ⟨⟨G1, O2, P5⟩, ⟨G3, O4, rG3⟩, -⟩ := id hst
  refine own_to (V := s₁.setTop (mkF m 4 #[sR ob, sI 1, sI 0] [])) ?_ fun t k => (by
    refine XS.iloadN X0.here hx rfl (hb hby d9_0) rfl ?_
    refine XS.ifNo X0.here hx rfl (hb hby d9_1) rfl ((if0 _ _).trans (teq ((by decide) : (0 : Int32) = (0 : Int32))).2) ?_
    exact k)
  obtain ⟨s101, T101, h101, k101, t101, kb101, X101, e101, E101, hS101, hk101, hZ101, hown101, gE101, gC101, gV101, gK101, la101, lb101, hC101, hL101, hne101, st101⟩ := ldcCH X0 hx hZ hown (own_i hw 131 rfl) (own_hsa hw) e0 hS0 hk0 (own_hEL hw) (own_mem131) Ch0.1 (vs := ([] : List Value)) (z := (0 : Int32)) ⟨by decide, by decide +kernel⟩ (by decide) (by decide) (g := (mkF m 4 #[sR ob, sI 1, sI 0] [])) rfl (hb hby d9_4) (n := 0) (by decide) (by decide) (by decide) (by decide)
  have Cs101 : CHr Z consts_1 s.vm h0 T101.vm h101 := hC101
  have Ch101 := Ch0.trans Cs101
  have Xo101 := X00.ext E101
  have KK101 := KK0.ext E101
  have Fs101 : own_Str Z h101 s101 t101 ([] : List Int32) := own_mkLit gE101 gV101 gC101 gK101 (by decide) (by decide) (by decide +kernel) (by decide)
  refine own_to ?_ st101
  exact own_retRH X101 hx hS101 (own_hk e101 hk101) (by rw [e101, hh]; exact Ch101.trans (CHv.at X101 hZ101 (own_hEL hw) Ch101.1)) hret (by decide) rfl hlk (hb hby d9_6) (by rw [e101]; exact (⟨s101, t101, rfl, N0, KK101, Fs101⟩)) (by decide) (by decide)
def own_Qsub4_1_1 (Z : State) (oa ua : Addr) (c0 c1 c2 c3 : Int32) (h0 : Heap) (n0 : Nat) (v : Option Value) (h : Heap) (L : List Loc) : Prop := (∃ (oo : Addr) (ou : Addr), v = some (.ref oo) ∧ Fr n0 L ∧ Keep h0 h [] ∧ (own_Str Z h oo ou ([] : List Int32)))
theorem own_ef_sub4_1_1 (m : MethodId) (oa : Addr)  : entryFrame m #[(.ref oa), (.int 1), (.int 1)] 5 = mkF m 0 #[sR oa, sI 1, sI 1, .unset, .unset] [] := by first | (simp [entryFrame, mkF, argsToLocals, Value.category]; done) | rfl
theorem own_rmsub4_1_1 (l : Launch) (Z : State) (a0 : Array Value) (hw : ∀ d ∈ tables_1, d.before a0 Z = true) (hst : own_St Z) (ws : List Jvm.Cond) (oa ua : Addr) (c0 c1 c2 c3 : Int32) (h0 : Heap) (n0 : Nat) (X00 : Old Z n0 h0) (l0 : ¬ c0 < 0 ∧ ¬ (255 : Int32) < c0) (l1 : ¬ c1 < 0 ∧ ¬ (255 : Int32) < c1) (l2 : ¬ c2 < 0 ∧ ¬ (255 : Int32) < c2) (l3 : ¬ c3 < 0 ∧ ¬ (255 : Int32) < c3) (hS : own_Str Z h0 oa ua ([c0, c1, c2, c3] : List Int32)) :
    MetFree l own_mn10 (head1 (Jvm.Cond.code own_mn10 jdk_42_method_92_code 5 (Option.some (Jvm.ClassFile.FieldType.object "java/lang/String")) :: ws) (own_R 2 2 4 29)) (fun a U => a = #[(.ref oa), (.int 1), (.int 1)] ∧ Z.Warmed39 U.vm ∧ U.heap = h0 ∧ CHv Z consts_1 U.vm h0) (fun _ _ _ _ _ => True) (fun _ U o U' => ∃ v L, o = .returned v ∧ own_Qsub4_1_1 Z oa ua c0 c1 c2 c3 h0 n0 v U'.heap L ∧ CHr Z consts_1 U.vm U.heap U'.vm U'.heap ∧ ReturnedEndW U o U' L (own_R 2 2 4 29).cells (own_R 2 2 4 29).slots) := by
  refine MetFree.of_bodySF (plainFor_of_name own_pn2) hisR ?_
  intro p e s m args below meth c s₁ Bd hml0 hP hK
  obtain ⟨rfl, hZ, hh, hCH⟩ := hP
  have hx := Bd.exec
  have hby := Bd.bytes
  have hret := Bd.returns
  have hlk : meth.locks = false := BodyLoose.notSynchronized Bd
  have hml : c.maxLocals = 5 := hml0
  have hown : s.vm.findClass "java/lang/String" = some m.cls := findClass_of_methodNamed Bd.named
  have hnm := (name_of_methodNamed Bd.named Bd.method).1
  have X0 : Stand p l e (own_R 2 2 4 29) (s.setVm s.vm) m #[(.ref oa), (.int 1), (.int 1)] below meth c s₁ [] 0 0 := Stand.of_body Bd
  have e0 : s₁.heap = h0 := by rw [← hh, Bd.state]; rfl
  have N0 := Fr.nil n0
  have KK0 : Keep h0 h0 [] := Keep.refl h0 _
  have hS0 : s.Since s.vm 0 := (State.WarmedH.refl s).since 0
  have hk0 : 0 ≤ h0.size := Nat.zero_le _
  have Ch0 : CHr Z consts_1 s.vm h0 s.vm h0 := CHr.refl hCH
  refine own_startH (own_Qsub4_1_1 Z oa ua c0 c1 c2 c3 h0 n0) ?_
  refine own_to (V := s₁.setTop (mkF m 0 #[sR oa, sI 1, sI 1, .unset, .unset] [])) ?_ (fun t k => castTop (own_ef_sub4_1_1 m oa ) k)
  obtain ⟨⟨G1, O2, P5⟩, ⟨G3, O4, rG3⟩, -⟩ := id hst
  obtain ⟨sk101, sE101, sV101, sC101, sK101', sb101⟩ := own_Str.latinL hS (own_lat2 (own_allS l0 (own_allS l1 (own_allS l2 (own_allS l3 own_all0)))))
  have sK101 : Arv Z h0 ua sk101 .byte (4 : Int32) [(.int (StrChars.lo8 c0)), (.int (StrChars.lo8 c1)), (.int (StrChars.lo8 c2)), (.int (StrChars.lo8 c3))] (.int (0 : Int32)) := sK101'
  refine own_to (V := s₁.setTop (mkF m 1 #[sR oa, sI 1, sI 1, .unset, .unset] [(.ref oa)])) ?_ fun t k => (by
    refine XS.aloadN X0.here hx rfl (hb hby d10_0) rfl rfl ?_
    exact k)
  obtain ⟨sE103, sd103, sN103, sk103, sv103, sV103, sC103, sK103, sc103, sb103, sl103⟩ := id hS
  obtain ⟨cq102, kq102, q102a, q102b, q102c⟩ := isOf hZ e0 sE101
  obtain ⟨_, _, ⟨T102, L102, k102, n102⟩, -, X102, ⟨Lc102, hQ102, l102, y102, z102⟩, st102⟩ := X0.virtualBack hx (y := own_mn11) (z := own_mn11) hown (mvT hZ (own_i hw 66 rfl)) (mvT hZ (own_i hw 67 rfl)) (notFace_of_selects (args := #[]) (mvT hZ (own_i hw 69 rfl))) (mvT hZ (own_i hw 69 rfl)) (mvT hZ (own_i hw 68 rfl)) (by decide) (StrChars.Road.lenW (W := 0) hZ (own_hln hw) (kI := 4) (own_i hw 2 rfl) sE103 sV103 sC103 sK103 sc103 sb103 (O2.ext X00.2) P5 sl103 (by decide) (by decide)) q102a q102c (g := (mkF m 1 #[sR oa, sI 1, sI 1, .unset, .unset] [(.ref oa)])) rfl (by rw [hml]; rfl) (Steps.refl _) (argsL := []) (rest := []) (lenOf own_pd2 rfl) rfl (by show 2 * 0 + _ ≤ _; exact Nat.le_of_eq rfl) (hb hby d10_1) (fun _ _ => ⟨rfl, e0, (by decide : 0 + 0 ≤ _), (by decide : 0 + 0 ≤ _)⟩)
  dsimp only [own_R, Pt.U, Pt.locs, Pt.cells, Pt.slots] at X102 l102 y102 z102 st102 hQ102
  subst y102 z102
  obtain ⟨hv102, hL102, hh102⟩ := hQ102
  subst hL102
  have N102 : Fr n0 L102 := by rw [l102]; exact Fr.app N0 (Fr.nil n0)
  subst hv102
  refine own_to ?_ (fun t k => st102.trans k)
  refine own_to (V := T102.setTop (mkF m 8 #[sR oa, sI 1, sI 1, sI 4, .unset] [(.int 4), (.int 1), (.int 1)])) ?_ fun t k => (by
    refine XS.istoreN X102.here hx rfl (hb hby d10_4) rfl (l' := #[sR oa, sI 1, sI 1, sI 4, .unset]) rfl ?_
    refine XS.iloadN X102.here hx rfl (hb hby d10_5) rfl ?_
    refine XS.iloadN X102.here hx rfl (hb hby d10_6) rfl ?_
    refine XS.iloadN X102.here hx rfl (hb hby d10_7) rfl ?_
    exact k)
  obtain ⟨_, T104, h104, L104, Lc104, X104, e104, hQ104, l104, st104⟩ := own_cS (own_rmcbbe l Z a0 hw hst [] (1 : Int32) (1 : Int32) (4 : Int32) h0 n0 X00 (by first | assumption | decide | omega | (simp; done) | rfl) (by first | assumption | decide | omega | (simp; done) | rfl) (by first | assumption | decide | omega | (simp; done) | rfl)) X102 hx hZ hown hh102 (own_i hw 76 rfl) (own_i hw 77 rfl) (own_i hw 3 rfl) (own_i hw 78 rfl) (by decide) (g := (mkF m 8 #[sR oa, sI 1, sI 1, sI 4, .unset] [(.int 4), (.int 1), (.int 1)])) rfl (by rw [hml]; rfl) (argsL := [(.int 1), (.int 1), (.int 4)]) (rest := []) (lenOf own_pd3 rfl) rfl rfl (hb hby d10_8) (W := 0) (Nat.le_of_eq rfl) (K := 0) (N := 0) rfl rfl (by decide) (by decide) (by decide) (by decide)
  obtain ⟨hv104, N104q, K104⟩ := hQ104
  subst hv104
  have Cs104 : CHr Z consts_1 s.vm h0 s.vm h104 := CHr.keep K104 sf0 Ch0.1
  have Ch104 := Ch0.trans Cs104
  have Xo104 := X00.keep K104 all0
  have KK104 := KK0.trans K104 all0
  have N104 := l104 _ N102 N104q
  refine own_to ?_ st104
  refine own_to (V := T104.setTop (mkF m 28 #[sR oa, sI 1, sI 1, sI 4, sI 0] [(.ref oa)])) ?_ fun t k => (by
    refine XS.iloadN X104.here hx rfl (hb hby d10_11) rfl ?_
    refine XS.ifYes X104.here hx rfl (pc0 := 12) (pc' := 22) rfl (hb hby d10_12) rfl ((if0 _ _).trans (feq ((by decide) : ¬ ((1 : Int32) = (0 : Int32)))).2) (by decide) (by decide) ?_
    refine XS.iloadN X104.here hx rfl (hb hby d10_22) rfl ?_
    refine XS.iloadN X104.here hx rfl (hb hby d10_23) rfl ?_
    refine XS.isub X104.here hx rfl (hb hby d10_24) rfl ?_
    refine XS.istore X104.here hx rfl (hb hby d10_25) rfl (l' := #[sR oa, sI 1, sI 1, sI 4, sI 0]) rfl ?_
    refine XS.aloadN X104.here hx rfl (hb hby d10_27) rfl rfl ?_
    exact k)
  have F106 := (sE101.keep K104)
  have F107 := (sC101.keep K104 List.not_mem_nil)
  obtain ⟨_, T105, h105, L105, Lc105, X105, e105, hQ105, l105, st105⟩ := own_cV (own_rmisl1 l Z a0 hw hst [] oa h104 n0 Xo104 F106 F107) X104 hx hZ hown e104 F106 (own_i hw 84 rfl) (own_i hw 85 rfl) (notFace_of_selects (args := #[]) (mvT hZ (own_i hw 87 rfl))) (own_i hw 87 rfl) (own_i hw 86 rfl) (own_i hw 3 rfl) (own_i hw 88 rfl) (by decide) (g := (mkF m 28 #[sR oa, sI 1, sI 1, sI 4, sI 0] [(.ref oa)])) rfl (by rw [hml]; rfl) (argsL := []) (rest := []) (lenOf own_pd4 rfl) rfl rfl (hb hby d10_28) (W := 0) (Nat.le_of_eq rfl) (K := 0) (N := 0) rfl rfl (by decide) (by decide) (by decide) (by decide)
  obtain ⟨hv105, N105q, K105⟩ := hQ105
  subst hv105
  have Cs105 : CHr Z consts_1 s.vm h104 s.vm h105 := CHr.keep K105 sf0 Ch104.1
  have Ch105 := Ch104.trans Cs105
  have Xo105 := Xo104.keep K105 all0
  have KK105 := KK104.trans K105 all0
  have N105 := l105 _ N104 N105q
  refine own_to ?_ st105
  refine own_to (V := T105.setTop (mkF m 35 #[sR oa, sI 1, sI 1, sI 4, sI 0] [(.ref oa)])) ?_ fun t k => (by
    refine XS.ifNo X105.here hx rfl (hb hby d10_31) rfl ((if0 _ _).trans (feq ((by decide) : ¬ ((1 : Int32) = (0 : Int32)))).1) ?_
    refine XS.aloadN X105.here hx rfl (hb hby d10_34) rfl rfl ?_
    exact k)
  have F108 := ((sV101.keep K104 List.not_mem_nil).keep K105 List.not_mem_nil)
  obtain ⟨T109, X109, e109, st109⟩ := getF X105 hx hZ hown (host := "") (Or.inl (own_i hw 28 rfl)) Via.refl e105 F108 (g := (mkF m 35 #[sR oa, sI 1, sI 1, sI 4, sI 0] [(.ref oa)])) rfl rfl (hb hby d10_35)
  refine own_to ?_ st109
  refine own_to (V := T109.setTop (mkF m 41 #[sR oa, sI 1, sI 1, sI 4, sI 0] [(.int 0), (.int 1), (.ref ua)])) ?_ fun t k => (by
    refine XS.iloadN X109.here hx rfl (hb hby d10_38) rfl ?_
    refine XS.iload X109.here hx rfl (hb hby d10_39) rfl ?_
    exact k)
  have F111 := ((sK101.keep K104 List.not_mem_nil).keep K105 List.not_mem_nil)
  obtain ⟨_, _, ⟨T110, L110, k110, n110⟩, -, X110', hS110', hg110, ⟨Lc110, hQ110, l110, y110, z110, hC110'⟩, st110⟩ := callSS X109 hx (y := own_mn9) hown (mvT hZ (own_i hw 89 rfl)) (mvT hZ (own_i hw 90 rfl)) (mvT hZ (own_i hw 91 rfl)) (mvT hZ (own_i hw 92 rfl)) (by decide) (backOfSH (W := 0) (own_rmnst4_1_0 l Z a0 hw hst [] ua sk101 c0 c1 c2 c3 h105 n0 Xo105 l0 l1 l2 l3 F111) hZ (own_i hw 92 rfl) (own_i hw 91 rfl) (by decide) (by decide) (own_hEL hw) Ch105.1) (g := (mkF m 41 #[sR oa, sI 1, sI 1, sI 4, sI 0] [(.int 0), (.int 1), (.ref ua)])) rfl (by rw [hml]; rfl) (argsL := [(.ref ua), (.int 1), (.int 0)]) (rest := []) (lenOf own_pd5 rfl) rfl (by show 2 * 0 + _ ≤ _; exact Nat.le_of_eq rfl) (hb hby d10_41) (fun _ _ => ⟨rfl, e109, (by decide : 0 + 2 ≤ _), (by decide : 0 + 4 ≤ _)⟩)
  dsimp only [own_R, Pt.U, Pt.locs, Pt.cells, Pt.slots] at X110' hS110' hg110 l110 y110 z110 st110 hQ110 hC110'
  subst y110 z110
  obtain ⟨X110, hS110, hZ110, hown110⟩ := rebS hS0 (own_hk e109 (Nat.le_trans (Nat.le_trans hk0 K104.1) K105.1)) X110' hS110' hg110 hZ hown
  obtain ⟨oo110, ou110, hv110, N110q, K110, g110_0⟩ := hQ110
  subst hv110
  obtain ⟨h110, e110⟩ : ∃ z, T110.heap = z := ⟨_, rfl⟩
  rw [e110] at K110 g110_0 hC110'
  have Cs110 : CHr Z consts_1 s.vm h105 T110.vm h110 := hC110'
  have Ch110 := Ch105.trans Cs110
  have Xo110 := Xo105.keep K110 all0
  have KK110 := KK105.trans K110 all0
  have hk110 : T110.heap.size ≤ h110.size := by rw [e110]; exact Nat.le_refl _
  have N110 : Fr n0 L110 := by rw [l110]; exact Fr.app N105 N110q
  refine own_to ?_ (fun t k => st110.trans k)
  refine own_to (V := T110.setTop (mkF m 57 #[sR oa, sI 1, sI 1, sI 4, sI 0] [(.ref oo110)])) ?_ fun t k => (by
    refine XS.goto X110.here hx rfl (pc0 := 44) (pc' := 57) rfl (hb hby d10_44) (by decide) (by decide) ?_
    exact k)
  exact own_retRH X110 hx hS110 (own_hk e110 hk110) (by rw [e110, hh]; exact Ch110.trans (CHv.at X110 hZ110 (own_hEL hw) Ch110.1)) hret (by decide) rfl hlk (hb hby d10_57) (by rw [e110]; exact (⟨oo110, ou110, rfl, N110, KK110, g110_0⟩)) (by decide) (by decide)
def own_Qtos11 (Z : State) (ow oa ua : Addr) (c0 c1 c2 c3 : Int32) (h0 : Heap) (n0 : Nat) (v : Option Value) (h : Heap) (L : List Loc) : Prop := (∃ (oo : Addr) (ou : Addr), v = some (.ref oo) ∧ Fr n0 L ∧ Keep h0 h [] ∧ (own_Str Z h oo ou ([] : List Int32)))
theorem own_ef_tos11 (m : MethodId) (ow : Addr)  : entryFrame m #[(.ref ow)] 1 = mkF m 0 #[sR ow] [] := by first | (simp [entryFrame, mkF, argsToLocals, Value.category]; done) | rfl
theorem own_rmtos11 (l : Launch) (Z : State) (a0 : Array Value) (hw : ∀ d ∈ tables_1, d.before a0 Z = true) (hst : own_St Z) (ws : List Jvm.Cond) (ow oa ua : Addr) (c0 c1 c2 c3 : Int32) (h0 : Heap) (n0 : Nat) (X00 : Old Z n0 h0) (l0 : ¬ c0 < 0 ∧ ¬ (255 : Int32) < c0) (l1 : ¬ c1 < 0 ∧ ¬ (255 : Int32) < c1) (l2 : ¬ c2 < 0 ∧ ¬ (255 : Int32) < c2) (l3 : ¬ c3 < 0 ∧ ¬ (255 : Int32) < c3) (hE : Exa Z h0 ow nm1) (f1 : Fld Z h0 ow nm1 "text" nm2 (.ref oa)) (f2 : Fld Z h0 ow nm1 "start" "I" (.int 1)) (f3 : Fld Z h0 ow nm1 "end" "I" (.int 1)) (hS : own_Str Z h0 oa ua ([c0, c1, c2, c3] : List Int32)) :
    MetFree l own_mn12 (head1 (Jvm.Cond.code own_mn12 prog_77_method_5_code 1 (Option.some (Jvm.ClassFile.FieldType.object "java/lang/String")) :: ws) (own_R 3 2 4 45)) (fun a U => a = #[(.ref ow)] ∧ Z.Warmed39 U.vm ∧ U.heap = h0 ∧ CHv Z consts_1 U.vm h0) (fun _ _ _ _ _ => True) (fun _ U o U' => ∃ v L, o = .returned v ∧ own_Qtos11 Z ow oa ua c0 c1 c2 c3 h0 n0 v U'.heap L ∧ CHr Z consts_1 U.vm U.heap U'.vm U'.heap ∧ ReturnedEndW U o U' L (own_R 3 2 4 45).cells (own_R 3 2 4 45).slots) := by
  refine MetFree.of_bodySF (plainFor_of_name own_pn4) hisR ?_
  intro p e s m args below meth c s₁ Bd hml0 hP hK
  obtain ⟨rfl, hZ, hh, hCH⟩ := hP
  have hx := Bd.exec
  have hby := Bd.bytes
  have hret := Bd.returns
  have hlk : meth.locks = false := BodyLoose.notSynchronized Bd
  have hml : c.maxLocals = 1 := hml0
  have hown : s.vm.findClass "com/example/capstrike/capstrike/TermText$Written" = some m.cls := findClass_of_methodNamed Bd.named
  have hnm := (name_of_methodNamed Bd.named Bd.method).1
  have X0 : Stand p l e (own_R 3 2 4 45) (s.setVm s.vm) m #[(.ref ow)] below meth c s₁ [] 0 0 := Stand.of_body Bd
  have e0 : s₁.heap = h0 := by rw [← hh, Bd.state]; rfl
  have N0 := Fr.nil n0
  have KK0 : Keep h0 h0 [] := Keep.refl h0 _
  have hS0 : s.Since s.vm 0 := (State.WarmedH.refl s).since 0
  have hk0 : 0 ≤ h0.size := Nat.zero_le _
  have Ch0 : CHr Z consts_1 s.vm h0 s.vm h0 := CHr.refl hCH
  refine own_startH (own_Qtos11 Z ow oa ua c0 c1 c2 c3 h0 n0) ?_
  refine own_to (V := s₁.setTop (mkF m 0 #[sR ow] [])) ?_ (fun t k => castTop (own_ef_tos11 m ow ) k)
  obtain ⟨⟨G1, O2, P5⟩, ⟨G3, O4, rG3⟩, -⟩ := id hst
  refine own_to (V := s₁.setTop (mkF m 1 #[sR ow] [(.ref ow)])) ?_ fun t k => (by
    refine XS.aloadN X0.here hx rfl (hb hby d11_0) rfl rfl ?_
    exact k)
  obtain ⟨T101, X101, e101, st101⟩ := getF X0 hx hZ hown (host := "") (Or.inl (own_i hw 50 rfl)) Via.refl e0 f1 (g := (mkF m 1 #[sR ow] [(.ref ow)])) rfl rfl (hb hby d11_1)
  refine own_to ?_ st101
  refine own_to (V := T101.setTop (mkF m 5 #[sR ow] [(.ref ow), (.ref oa)])) ?_ fun t k => (by
    refine XS.aloadN X101.here hx rfl (hb hby d11_4) rfl rfl ?_
    exact k)
  obtain ⟨T102, X102, e102, st102⟩ := getF X101 hx hZ hown (host := "") (Or.inl (own_i hw 52 rfl)) Via.refl e101 f2 (g := (mkF m 5 #[sR ow] [(.ref ow), (.ref oa)])) rfl rfl (hb hby d11_5)
  refine own_to ?_ st102
  refine own_to (V := T102.setTop (mkF m 9 #[sR ow] [(.ref ow), (.int 1), (.ref oa)])) ?_ fun t k => (by
    refine XS.aloadN X102.here hx rfl (hb hby d11_8) rfl rfl ?_
    exact k)
  obtain ⟨T103, X103, e103, st103⟩ := getF X102 hx hZ hown (host := "") (Or.inl (own_i hw 54 rfl)) Via.refl e102 f3 (g := (mkF m 9 #[sR ow] [(.ref ow), (.int 1), (.ref oa)])) rfl rfl (hb hby d11_9)
  refine own_to ?_ st103
  obtain ⟨cq104, kq104, q104a, q104b, q104c⟩ := isOf hZ e103 hS.1
  obtain ⟨_, _, ⟨T104, L104, k104, n104⟩, -, X104', hS104', hg104, ⟨Lc104, hQ104, l104, y104, z104, hC104'⟩, st104⟩ := X103.virtualBackS hx (y := own_mn10) (z := own_mn10) hown (mvT hZ (own_i hw 61 rfl)) (mvT hZ (own_i hw 62 rfl)) (notFace_of_selects (args := #[]) (mvT hZ (own_i hw 64 rfl))) (mvT hZ (own_i hw 64 rfl)) (mvT hZ (own_i hw 63 rfl)) (by decide) (backOfSH (W := 0) (own_rmsub4_1_1 l Z a0 hw hst [] oa ua c0 c1 c2 c3 h0 n0 X00 l0 l1 l2 l3 hS) hZ (own_i hw 65 rfl) (own_i hw 3 rfl) (by decide) (by decide) (own_hEL hw) Ch0.1) q104a q104c (g := (mkF m 12 #[sR ow] [(.int 1), (.int 1), (.ref oa)])) rfl (by rw [hml]; rfl) (Steps.refl _) (argsL := [(.int 1), (.int 1)]) (rest := []) (lenOf own_pd6 rfl) rfl (by show 2 * 0 + _ ≤ _; exact Nat.le_of_eq rfl) (hb hby d11_12) (fun _ _ => ⟨rfl, e103, (by decide : 0 + 2 ≤ _), (by decide : 0 + 4 ≤ _)⟩)
  dsimp only [own_R, Pt.U, Pt.locs, Pt.cells, Pt.slots] at X104' hS104' hg104 l104 y104 z104 st104 hQ104 hC104'
  subst y104 z104
  obtain ⟨X104, hS104, hZ104, hown104⟩ := rebS hS0 (own_hk e103 hk0) X104' hS104' hg104 hZ hown
  obtain ⟨oo104, ou104, hv104, N104q, K104, g104_0⟩ := hQ104
  subst hv104
  obtain ⟨h104, e104⟩ : ∃ z, T104.heap = z := ⟨_, rfl⟩
  rw [e104] at K104 g104_0 hC104'
  have Cs104 : CHr Z consts_1 s.vm h0 T104.vm h104 := hC104'
  have Ch104 := Ch0.trans Cs104
  have Xo104 := X00.keep K104 all0
  have KK104 := KK0.trans K104 all0
  have hk104 : T104.heap.size ≤ h104.size := by rw [e104]; exact Nat.le_refl _
  have N104 : Fr n0 L104 := by rw [l104]; exact Fr.app N0 N104q
  refine own_to ?_ (fun t k => st104.trans k)
  exact own_retRH X104 hx hS104 (own_hk e104 hk104) (by rw [e104, hh]; exact Ch104.trans (CHv.at X104 hZ104 (own_hEL hw) Ch104.1)) hret (by decide) rfl hlk (hb hby d11_15) (by rw [e104]; exact (⟨oo104, ou104, rfl, N104, KK104, g104_0⟩)) (by decide) (by decide)
def own_Qcrb4_1_2 (Z : State) (ob : Addr) (kb : ClassId) (d0 d1 d2 d3 : Int32) (h0 : Heap) (n0 : Nat) (v : Option Value) (h : Heap) (L : List Loc) : Prop := (∃ (oo : Addr) (ko : ClassId), v = some (.ref oo) ∧ Fr n0 L ∧ Keep h0 h [] ∧ (Arv Z h oo ko .byte (1 : Int32) [(.int d1)] (.int (0 : Int32))) ∧ (h0.size ≤ oo))
theorem own_ef_crb4_1_2 (m : MethodId) (ob : Addr)  : entryFrame m #[(.ref ob), (.int 1), (.int 2)] 5 = mkF m 0 #[sR ob, sI 1, sI 2, .unset, .unset] [] := by first | (simp [entryFrame, mkF, argsToLocals, Value.category]; done) | rfl
theorem own_rmcrb4_1_2 (l : Launch) (Z : State) (a0 : Array Value) (hw : ∀ d ∈ tables_1, d.before a0 Z = true) (hst : own_St Z) (ws : List Jvm.Cond) (ob : Addr) (kb : ClassId) (d0 d1 d2 d3 : Int32) (h0 : Heap) (n0 : Nat) (X00 : Old Z n0 h0) (hA : Arv Z h0 ob kb .byte (4 : Int32) [(.int d0), (.int d1), (.int d2), (.int d3)] (.int (0 : Int32))) :
    own_MF l own_mn13 jdk_65_method_133_code 5 (Option.some (Jvm.ClassFile.FieldType.array Jvm.ClassFile.FieldType.byte)) ws (own_R 1 1 1 18) #[(.ref ob), (.int 1), (.int 2)] Z h0 (own_Qcrb4_1_2 Z ob kb d0 d1 d2 d3 h0 n0) := by
  refine own_body (plainFor_of_name own_pn0) (fun m => own_ef_crb4_1_2 m ob ) ?_
  intro p e s m below meth c s₁ hx hby hret hlk hml hZ hown hnm hh X0 e0
  have N0 := Fr.nil n0
  have KK0 : Keep h0 h0 [] := Keep.refl h0 _
  obtain ⟨⟨G1, O2, P5⟩, ⟨G3, O4, rG3⟩, -⟩ := id hst
  refine own_to (V := s₁.setTop (mkF m 2 #[sR ob, sI 1, sI 2, .unset, .unset] [(.int 2), (.int 1)])) ?_ fun t k => (by
    refine XS.iloadN X0.here hx rfl (hb hby d12_0) rfl ?_
    refine XS.iloadN X0.here hx rfl (hb hby d12_1) rfl ?_
    exact k)
  obtain ⟨_, T101, h101, L101, Lc101, X101, e101, hQ101, l101, st101⟩ := own_cS (own_rmckl l Z a0 hw hst [] (1 : Int32) (2 : Int32) h0 n0 X00 (by first | assumption | decide | omega | (simp; done) | rfl)) X0 hx hZ hown e0 (own_i hw 101 rfl) (own_i hw 102 rfl) (own_i hw 96 rfl) (own_i hw 103 rfl) (by decide) (g := (mkF m 2 #[sR ob, sI 1, sI 2, .unset, .unset] [(.int 2), (.int 1)])) rfl (by rw [hml]; rfl) (argsL := [(.int 1), (.int 2)]) (rest := []) (lenOf own_pd7 rfl) rfl rfl (hb hby d12_2) (W := 0) (Nat.le_of_eq rfl) (K := 0) (N := 0) rfl rfl (by decide) (by decide) (by decide) (by decide)
  obtain ⟨hv101, N101q, K101⟩ := hQ101
  subst hv101
  have Xo101 := X00.keep K101 all0
  have KK101 := KK0.trans K101 all0
  have N101 := l101 _ N0 N101q
  refine own_to ?_ st101
  refine own_to (V := T101.setTop (mkF m 10 #[sR ob, sI 1, sI 2, sI 1, .unset] [(.int 1)])) ?_ fun t k => (by
    refine XS.iloadN X101.here hx rfl (hb hby d12_5) rfl ?_
    refine XS.iloadN X101.here hx rfl (hb hby d12_6) rfl ?_
    refine XS.isub X101.here hx rfl (hb hby d12_7) rfl ?_
    refine XS.istoreN X101.here hx rfl (hb hby d12_8) rfl (l' := #[sR ob, sI 1, sI 2, sI 1, .unset]) rfl ?_
    refine XS.iloadN X101.here hx rfl (hb hby d12_9) rfl ?_
    exact k)
  obtain ⟨T102, h102, k102, X102, e102, E102, A102, st102⟩ := newP X101 hx hZ (own_i hw 19 rfl) e101 (g := (mkF m 10 #[sR ob, sI 1, sI 2, sI 1, .unset] [(.int 1)])) rfl (hb hby d12_10) rfl (by decide) (cap := 1) (by decide) (by decide) (by decide) (by decide)
  obtain ⟨b102, g102⟩ : ∃ z, z = h101.size := ⟨_, rfl⟩
  rw [← g102] at A102 st102
  have Xo102 := Xo101.ext E102
  have KK102 := KK101.ext E102
  have ge_b102 := Nat.le_trans (own_ole Xo101) (Nat.le_of_eq g102.symm)
  have sz_b102 := Nat.le_trans KK101.1 (Nat.le_of_eq g102.symm)
  have V102 : Arv Z h102 b102 k102 .byte (1 : Int32) [(.int 0)] (.int (0 : Int32)) := (Arv.new A102 (by decide)).pad (pad_rep [] (.int (0 : Int32)) 1)
  refine own_to ?_ st102
  refine own_to (V := T102.setTop (mkF m 20 #[sR ob, sI 1, sI 2, sI 1, sR b102] [(.ref ob), (.int 0), (.ref b102), (.int 1), (.ref ob)])) ?_ fun t k => (by
    refine XS.astore X102.here hx rfl (hb hby d12_12) rfl rfl (l' := #[sR ob, sI 1, sI 2, sI 1, sR b102]) rfl ?_
    refine XS.aloadN X102.here hx rfl (hb hby d12_14) rfl rfl ?_
    refine XS.iloadN X102.here hx rfl (hb hby d12_15) rfl ?_
    refine XS.aload X102.here hx rfl (hb hby d12_16) rfl rfl ?_
    refine XS.iconst X102.here hx rfl (hb hby d12_18) ?_
    refine XS.aloadN X102.here hx rfl (hb hby d12_19) rfl rfl ?_
    exact k)
  have F103 := ((hA.keep K101 List.not_mem_nil).ext E102)
  obtain ⟨cl104, Ar104, q104, S104, M104, H104, G104⟩ := id F103
  refine own_to (V := T102.setTop (mkF m 21 #[sR ob, sI 1, sI 2, sI 1, sR b102] [(.int 4), (.int 0), (.ref b102), (.int 1), (.ref ob)])) ?_ (fun t k => X102.arraylength hx (by rw [e102]; exact Ar104.1) (State.isArrayOf_alike hZ.alike Ar104.2.1) (g := (mkF m 20 #[sR ob, sI 1, sI 2, sI 1, sR b102] [(.ref ob), (.int 0), (.ref b102), (.int 1), (.ref ob)])) rfl rfl (hb hby d12_20) t (by rw [len_of S104 M104]; exact k))
  refine own_to (V := T102.setTop (mkF m 24 #[sR ob, sI 1, sI 2, sI 1, sR b102] [(.int 1), (.int 3), (.int 0), (.ref b102), (.int 1), (.ref ob)])) ?_ fun t k => (by
    refine XS.iloadN X102.here hx rfl (hb hby d12_21) rfl ?_
    refine XS.isub X102.here hx rfl (hb hby d12_22) rfl ?_
    refine XS.iloadN X102.here hx rfl (hb hby d12_23) rfl ?_
    exact k)
  obtain ⟨_, T105, h105, L105, Lc105, X105, e105, hQ105, l105, st105⟩ := own_cS (own_rmmamin l Z a0 hw hst [] (3 : Int32) (1 : Int32) h102 n0 Xo102 ) X102 hx hZ hown e102 (own_i hw 104 rfl) (own_i hw 32 rfl) (own_i hw 33 rfl) (own_i hw 34 rfl) (by decide) (g := (mkF m 24 #[sR ob, sI 1, sI 2, sI 1, sR b102] [(.int 1), (.int 3), (.int 0), (.ref b102), (.int 1), (.ref ob)])) rfl (by rw [hml]; rfl) (argsL := [(.int 3), (.int 1)]) (rest := [(.int 0), (.ref b102), (.int 1), (.ref ob)]) (lenOf own_pd8 rfl) rfl rfl (hb hby d12_24) (W := 4) (Nat.le_of_eq rfl) (K := 1) (N := 1) rfl rfl (by decide) (by decide) (by decide) (by decide)
  rcases hQ105 with ⟨hv105, N105q, K105, g105_0⟩ | ⟨hv105, N105q, K105, g105_0⟩
  ·skip
   subst hv105
   have Xo105 := Xo102.keep K105 all0
   have KK105 := KK102.trans K105 all0
   have N105 := l105 _ N101 N105q
   exact absurd (by decide) g105_0
  ·skip
   subst hv105
   have Xo105 := Xo102.keep K105 all0
   have KK105 := KK102.trans K105 all0
   have N105 := l105 _ N101 N105q
   refine own_to ?_ st105
   have F107 := (F103.keep K105 List.not_mem_nil)
   have F108 := (V102.keep K105 List.not_mem_nil)
   obtain ⟨T106, h106, L106, X106, e106, N106, K106, V106', st106⟩ := cpA X105 hx hZ hown (own_i hw 105 rfl) (own_i hw 108 rfl) (own_i hw 106 rfl) (own_i hw 107 rfl) e105 (sp := (1 : Int32)) (dp := (0 : Int32)) (nn := (1 : Int32)) (us := [(.int d1)]) F107 F108 (Or.inl ⟨rfl, rfl⟩) (by decide) (by decide) (by decide) (by decide) (by decide) rfl (Nat.le_of_ble_eq_true rfl) N105 ge_b102 (g := (mkF m 27 #[sR ob, sI 1, sI 2, sI 1, sR b102] [(.int 1), (.int 0), (.ref b102), (.int 1), (.ref ob)])) rfl (by rw [hml]; rfl) (rest := []) rfl (hb hby d12_27) (by decide) (W := 0) (by show 2 * 0 + _ ≤ _; exact Nat.le_of_eq rfl) (by decide)
   have Xo106 := Xo105.keep K106 (allS ge_b102 all0)
   have KK106 := KK105.trans K106 (allS (Or.inr sz_b102) all0)
   have V106 : Arv Z h106 b102 k102 .byte (1 : Int32) [(.int d1)] (.int (0 : Int32)) := V106'
   refine own_to ?_ st106
   refine own_to (V := T106.setTop (mkF m 32 #[sR ob, sI 1, sI 2, sI 1, sR b102] [(.ref b102)])) ?_ fun t k => (by
     refine XS.aload X106.here hx rfl (hb hby d12_30) rfl rfl ?_
     exact k)
   exact own_retR X106 hx hret (by decide) rfl hlk (hb hby d12_32) (by rw [e106]; exact (⟨b102, k102, rfl, N106, KK106, V106, sz_b102⟩)) (by decide) (by decide)
def own_Qcor4_1_2 (Z : State) (ob : Addr) (kb : ClassId) (d0 d1 d2 d3 : Int32) (h0 : Heap) (n0 : Nat) (v : Option Value) (h : Heap) (L : List Loc) : Prop := (∃ (oo : Addr) (ko : ClassId), v = some (.ref oo) ∧ Fr n0 L ∧ Keep h0 h [] ∧ (Arv Z h oo ko .byte (1 : Int32) [(.int d1)] (.int (0 : Int32))) ∧ (h0.size ≤ oo))
theorem own_ef_cor4_1_2 (m : MethodId) (ob : Addr)  : entryFrame m #[(.ref ob), (.int 1), (.int 2)] 3 = mkF m 0 #[sR ob, sI 1, sI 2] [] := by first | (simp [entryFrame, mkF, argsToLocals, Value.category]; done) | rfl
theorem own_rmcor4_1_2 (l : Launch) (Z : State) (a0 : Array Value) (hw : ∀ d ∈ tables_1, d.before a0 Z = true) (hst : own_St Z) (ws : List Jvm.Cond) (ob : Addr) (kb : ClassId) (d0 d1 d2 d3 : Int32) (h0 : Heap) (n0 : Nat) (X00 : Old Z n0 h0) (hA : Arv Z h0 ob kb .byte (4 : Int32) [(.int d0), (.int d1), (.int d2), (.int d3)] (.int (0 : Int32))) :
    own_MF l own_mn14 jdk_65_method_132_code 3 (Option.some (Jvm.ClassFile.FieldType.array Jvm.ClassFile.FieldType.byte)) ws (own_R 2 1 1 34) #[(.ref ob), (.int 1), (.int 2)] Z h0 (own_Qcor4_1_2 Z ob kb d0 d1 d2 d3 h0 n0) := by
  refine own_body (plainFor_of_name own_pn0) (fun m => own_ef_cor4_1_2 m ob ) ?_
  intro p e s m below meth c s₁ hx hby hret hlk hml hZ hown hnm hh X0 e0
  have N0 := Fr.nil n0
  have KK0 : Keep h0 h0 [] := Keep.refl h0 _
  obtain ⟨⟨G1, O2, P5⟩, ⟨G3, O4, rG3⟩, -⟩ := id hst
  refine own_to (V := s₁.setTop (mkF m 13 #[sR ob, sI 1, sI 2] [(.int 2), (.int 1), (.ref ob)])) ?_ fun t k => (by
    refine XS.iloadN X0.here hx rfl (hb hby d13_0) rfl ?_
    refine XS.ifYes X0.here hx rfl (pc0 := 1) (pc' := 10) rfl (hb hby d13_1) rfl ((if0 _ _).trans (feq ((by decide) : ¬ ((1 : Int32) = (0 : Int32)))).2) (by decide) (by decide) ?_
    refine XS.aloadN X0.here hx rfl (hb hby d13_10) rfl rfl ?_
    refine XS.iloadN X0.here hx rfl (hb hby d13_11) rfl ?_
    refine XS.iloadN X0.here hx rfl (hb hby d13_12) rfl ?_
    exact k)
  obtain ⟨_, T101, h101, L101, Lc101, X101, e101, hQ101, l101, st101⟩ := own_cS (own_rmcrb4_1_2 l Z a0 hw hst [] ob kb d0 d1 d2 d3 h0 n0 X00 hA) X0 hx hZ hown e0 (own_i hw 98 rfl) (own_i hw 99 rfl) (own_i hw 96 rfl) (own_i hw 100 rfl) (by decide) (g := (mkF m 13 #[sR ob, sI 1, sI 2] [(.int 2), (.int 1), (.ref ob)])) rfl (by rw [hml]; rfl) (argsL := [(.ref ob), (.int 1), (.int 2)]) (rest := []) (lenOf own_pd9 rfl) rfl rfl (hb hby d13_13) (W := 0) (Nat.le_of_eq rfl) (K := 1) (N := 1) rfl rfl (by decide) (by decide) (by decide) (by decide)
  obtain ⟨oo101, ko101, hv101, N101q, K101, g101_0, g101_1⟩ := hQ101
  subst hv101
  have Xo101 := X00.keep K101 all0
  have KK101 := KK0.trans K101 all0
  have N101 := l101 _ N0 N101q
  have ge_oo101 := Nat.le_trans (own_ole X00) g101_1
  have sz_oo101 := Nat.le_trans KK0.1 g101_1
  refine own_to ?_ st101
  exact own_retR X101 hx hret (by decide) rfl hlk (hb hby d13_16) (by rw [e101]; exact (⟨oo101, ko101, rfl, N101, KK101, g101_0, sz_oo101⟩)) (by decide) (by decide)
def own_Qnst4_1_1 (Z : State) (ob : Addr) (kb : ClassId) (c0 c1 c2 c3 : Int32) (h0 : Heap) (n0 : Nat) (v : Option Value) (h : Heap) (L : List Loc) : Prop := (∃ (oo : Addr) (ou : Addr), v = some (.ref oo) ∧ Fr n0 L ∧ Keep h0 h [] ∧ (own_Str Z h oo ou ([c1] : List Int32)))
theorem own_ef_nst4_1_1 (m : MethodId) (ob : Addr)  : entryFrame m #[(.ref ob), (.int 1), (.int 1)] 3 = mkF m 0 #[sR ob, sI 1, sI 1] [] := by first | (simp [entryFrame, mkF, argsToLocals, Value.category]; done) | rfl
theorem own_rmnst4_1_1 (l : Launch) (Z : State) (a0 : Array Value) (hw : ∀ d ∈ tables_1, d.before a0 Z = true) (hst : own_St Z) (ws : List Jvm.Cond) (ob : Addr) (kb : ClassId) (c0 c1 c2 c3 : Int32) (h0 : Heap) (n0 : Nat) (X00 : Old Z n0 h0) (l0 : ¬ c0 < 0 ∧ ¬ (255 : Int32) < c0) (l1 : ¬ c1 < 0 ∧ ¬ (255 : Int32) < c1) (l2 : ¬ c2 < 0 ∧ ¬ (255 : Int32) < c2) (l3 : ¬ c3 < 0 ∧ ¬ (255 : Int32) < c3) (hA : Arv Z h0 ob kb .byte (4 : Int32) [(.int (StrChars.lo8 c0)), (.int (StrChars.lo8 c1)), (.int (StrChars.lo8 c2)), (.int (StrChars.lo8 c3))] (.int (0 : Int32))) :
    own_MF l own_mn9 jdk_43_method_47_code 3 (Option.some (Jvm.ClassFile.FieldType.object "java/lang/String")) ws (own_R 3 2 5 50) #[(.ref ob), (.int 1), (.int 1)] Z h0 (own_Qnst4_1_1 Z ob kb c0 c1 c2 c3 h0 n0) := by
  refine own_body (plainFor_of_name own_pn5) (fun m => own_ef_nst4_1_1 m ob ) ?_
  intro p e s m below meth c s₁ hx hby hret hlk hml hZ hown hnm hh X0 e0
  have N0 := Fr.nil n0
  have KK0 : Keep h0 h0 [] := Keep.refl h0 _
  obtain ⟨⟨G1, O2, P5⟩, ⟨G3, O4, rG3⟩, -⟩ := id hst
  refine own_to (V := s₁.setTop (mkF m 7 #[sR ob, sI 1, sI 1] [])) ?_ fun t k => (by
    refine XS.iloadN X0.here hx rfl (hb hby d9_0) rfl ?_
    refine XS.ifYes X0.here hx rfl (pc0 := 1) (pc' := 7) rfl (hb hby d9_1) rfl ((if0 _ _).trans (feq ((by decide) : ¬ ((1 : Int32) = (0 : Int32)))).2) (by decide) (by decide) ?_
    exact k)
  obtain ⟨T101, h101, X101, e101, E101, A101, D101, U101, st101⟩ := newO X0 hx hZ hown (own_i hw 93 rfl) (own_i hw 2 rfl) (own_i hw 3 rfl) e0 (g := (mkF m 7 #[sR ob, sI 1, sI 1] [])) rfl (hb hby d9_7) (by decide) (by decide)
  obtain ⟨b101, g101⟩ : ∃ z, z = h0.size := ⟨_, rfl⟩
  rw [← g101] at A101 D101 U101 st101
  have Xo101 := X00.ext E101
  have KK101 := KK0.ext E101
  have ge_b101 := Nat.le_trans (own_ole X00) (Nat.le_of_eq g101.symm)
  have sz_b101 := Nat.le_trans KK0.1 (Nat.le_of_eq g101.symm)
  have Fi101_27 : Fld Z h101 b101 nm0 "coder" "B" (.int 0) := D101 (Or.inr (own_i hw 27 rfl)) (ty := .byte) (by decide)
  have Fi101_29 : Fld Z h101 b101 nm0 "value" "[B" .null := D101 (Or.inr (own_i hw 29 rfl)) (ty := (.array .byte)) (by decide)
  refine own_to ?_ st101
  refine own_to (V := T101.setTop (mkF m 16 #[sR ob, sI 1, sI 1] [(.int 2), (.int 1), (.ref ob), (.ref b101), (.ref b101)])) ?_ fun t k => (by
    refine XS.dup X101.here hx rfl (hb hby d9_10) rfl rfl ?_
    refine XS.aloadN X101.here hx rfl (hb hby d9_11) rfl rfl ?_
    refine XS.iloadN X101.here hx rfl (hb hby d9_12) rfl ?_
    refine XS.iloadN X101.here hx rfl (hb hby d9_13) rfl ?_
    refine XS.iloadN X101.here hx rfl (hb hby d9_14) rfl ?_
    refine XS.iadd X101.here hx rfl (hb hby d9_15) rfl ?_
    exact k)
  have F103 := (hA.ext E101)
  obtain ⟨_, T102, h102, L102, Lc102, X102, e102, hQ102, l102, st102⟩ := own_cS (own_rmcor4_1_2 l Z a0 hw hst [] ob kb (StrChars.lo8 c0) (StrChars.lo8 c1) (StrChars.lo8 c2) (StrChars.lo8 c3) h101 n0 Xo101 F103) X101 hx hZ hown e101 (own_i hw 94 rfl) (own_i hw 95 rfl) (own_i hw 96 rfl) (own_i hw 97 rfl) (by decide) (g := (mkF m 16 #[sR ob, sI 1, sI 1] [(.int 2), (.int 1), (.ref ob), (.ref b101), (.ref b101)])) rfl (by rw [hml]; rfl) (argsL := [(.ref ob), (.int 1), (.int 2)]) (rest := [(.ref b101), (.ref b101)]) (lenOf own_pd9 rfl) rfl rfl (hb hby d9_16) (W := 2) (Nat.le_of_eq rfl) (K := 2) (N := 5) rfl rfl (by decide) (by decide) (by decide) (by decide)
  obtain ⟨oo102, ko102, hv102, N102q, K102, g102_0, g102_1⟩ := hQ102
  subst hv102
  have Xo102 := Xo101.keep K102 all0
  have KK102 := KK101.trans K102 all0
  have N102 := l102 _ N0 N102q
  have ge_oo102 := Nat.le_trans (own_ole Xo101) g102_1
  have sz_oo102 := Nat.le_trans KK101.1 g102_1
  refine own_to ?_ st102
  refine own_to (V := T102.setTop (mkF m 20 #[sR ob, sI 1, sI 1] [(.int 0), (.ref oo102), (.ref b101), (.ref b101)])) ?_ fun t k => (by
    refine XS.iconst X102.here hx rfl (hb hby d9_19) ?_
    exact k)
  have F105 := (A101.keep K102)
  have F106 := (Fi101_29.keep K102 List.not_mem_nil)
  have F107 := (Fi101_27.keep K102 List.not_mem_nil)
  obtain ⟨_, T104, h104, L104, Lc104, X104, e104, hQ104, l104, st104⟩ := own_cI (own_rmsibb l Z a0 hw hst [] b101 oo102 h102 n0 Xo102 F105 F106 F107 ge_b101) X102 hx hZ hown e102 rfl (own_i hw 109 rfl) (own_i hw 110 rfl) (own_i hw 3 rfl) (own_i hw 111 rfl) (by decide) (g := (mkF m 20 #[sR ob, sI 1, sI 1] [(.int 0), (.ref oo102), (.ref b101), (.ref b101)])) rfl (by rw [hml]; rfl) (argsL := [(.ref oo102), (.int 0)]) (rest := [(.ref b101)]) (lenOf own_pd10 rfl) rfl rfl (hb hby d9_20) (W := 1) (Nat.le_of_eq rfl) (K := 2) (N := 5) rfl rfl (by decide) (by decide) (by decide) (by decide)
  obtain ⟨hv104, N104q, K104, g104_0, g104_1⟩ := hQ104
  subst hv104
  have Xo104 := Xo102.keep K104 (allS ge_b101 all0)
  have KK104 := KK102.trans K104 (allS (Or.inr sz_b101) all0)
  have N104 := l104 _ N102 N104q
  refine own_to ?_ st104
  have F109 := (F105.keep K104)
  have F110 := (g102_0.keep K104 (own_nmS (Ne.symm (Nat.ne_of_lt (Nat.lt_of_lt_of_le A101.lt g102_1))) own_nm0))
  have Fz108 : own_Str Z h104 b101 oo102 ([c1] : List Int32) := own_mkLit F109 g104_0 g104_1 F110 rfl (own_allS l1 own_all0) rfl (Nat.le_of_ble_eq_true rfl)
  exact own_retR X104 hx hret (by decide) rfl hlk (hb hby d9_23) (by rw [e104]; exact (⟨b101, oo102, rfl, N104, KK104, Fz108⟩)) (by decide) (by decide)
def own_Qsub4_1_2 (Z : State) (oa ua : Addr) (c0 c1 c2 c3 : Int32) (h0 : Heap) (n0 : Nat) (v : Option Value) (h : Heap) (L : List Loc) : Prop := (∃ (oo : Addr) (ou : Addr), v = some (.ref oo) ∧ Fr n0 L ∧ Keep h0 h [] ∧ (own_Str Z h oo ou ([c1] : List Int32)))
theorem own_ef_sub4_1_2 (m : MethodId) (oa : Addr)  : entryFrame m #[(.ref oa), (.int 1), (.int 2)] 5 = mkF m 0 #[sR oa, sI 1, sI 2, .unset, .unset] [] := by first | (simp [entryFrame, mkF, argsToLocals, Value.category]; done) | rfl
theorem own_rmsub4_1_2 (l : Launch) (Z : State) (a0 : Array Value) (hw : ∀ d ∈ tables_1, d.before a0 Z = true) (hst : own_St Z) (ws : List Jvm.Cond) (oa ua : Addr) (c0 c1 c2 c3 : Int32) (h0 : Heap) (n0 : Nat) (X00 : Old Z n0 h0) (l0 : ¬ c0 < 0 ∧ ¬ (255 : Int32) < c0) (l1 : ¬ c1 < 0 ∧ ¬ (255 : Int32) < c1) (l2 : ¬ c2 < 0 ∧ ¬ (255 : Int32) < c2) (l3 : ¬ c3 < 0 ∧ ¬ (255 : Int32) < c3) (hS : own_Str Z h0 oa ua ([c0, c1, c2, c3] : List Int32)) :
    own_MF l own_mn10 jdk_42_method_92_code 5 (Option.some (Jvm.ClassFile.FieldType.object "java/lang/String")) ws (own_R 4 2 5 64) #[(.ref oa), (.int 1), (.int 2)] Z h0 (own_Qsub4_1_2 Z oa ua c0 c1 c2 c3 h0 n0) := by
  refine own_body (plainFor_of_name own_pn2) (fun m => own_ef_sub4_1_2 m oa ) ?_
  intro p e s m below meth c s₁ hx hby hret hlk hml hZ hown hnm hh X0 e0
  have N0 := Fr.nil n0
  have KK0 : Keep h0 h0 [] := Keep.refl h0 _
  obtain ⟨⟨G1, O2, P5⟩, ⟨G3, O4, rG3⟩, -⟩ := id hst
  obtain ⟨sk101, sE101, sV101, sC101, sK101', sb101⟩ := own_Str.latinL hS (own_lat2 (own_allS l0 (own_allS l1 (own_allS l2 (own_allS l3 own_all0)))))
  have sK101 : Arv Z h0 ua sk101 .byte (4 : Int32) [(.int (StrChars.lo8 c0)), (.int (StrChars.lo8 c1)), (.int (StrChars.lo8 c2)), (.int (StrChars.lo8 c3))] (.int (0 : Int32)) := sK101'
  refine own_to (V := s₁.setTop (mkF m 1 #[sR oa, sI 1, sI 2, .unset, .unset] [(.ref oa)])) ?_ fun t k => (by
    refine XS.aloadN X0.here hx rfl (hb hby d10_0) rfl rfl ?_
    exact k)
  obtain ⟨sE103, sd103, sN103, sk103, sv103, sV103, sC103, sK103, sc103, sb103, sl103⟩ := id hS
  obtain ⟨cq102, kq102, q102a, q102b, q102c⟩ := isOf hZ e0 sE101
  obtain ⟨_, _, ⟨T102, L102, k102, n102⟩, -, X102, ⟨Lc102, hQ102, l102, y102, z102⟩, st102⟩ := X0.virtualBack hx (y := own_mn11) (z := own_mn11) hown (mvT hZ (own_i hw 66 rfl)) (mvT hZ (own_i hw 67 rfl)) (notFace_of_selects (args := #[]) (mvT hZ (own_i hw 69 rfl))) (mvT hZ (own_i hw 69 rfl)) (mvT hZ (own_i hw 68 rfl)) (by decide) (StrChars.Road.lenW (W := 0) hZ (own_hln hw) (kI := 4) (own_i hw 2 rfl) sE103 sV103 sC103 sK103 sc103 sb103 (O2.ext X00.2) P5 sl103 (by decide) (by decide)) q102a q102c (g := (mkF m 1 #[sR oa, sI 1, sI 2, .unset, .unset] [(.ref oa)])) rfl (by rw [hml]; rfl) (Steps.refl _) (argsL := []) (rest := []) (lenOf own_pd2 rfl) rfl (by show 2 * 0 + _ ≤ _; exact Nat.le_of_eq rfl) (hb hby d10_1) (fun _ _ => ⟨rfl, e0, (by decide : 0 + 0 ≤ _), (by decide : 0 + 0 ≤ _)⟩)
  dsimp only [own_R, Pt.U, Pt.locs, Pt.cells, Pt.slots] at X102 l102 y102 z102 st102 hQ102
  subst y102 z102
  obtain ⟨hv102, hL102, hh102⟩ := hQ102
  subst hL102
  have N102 : Fr n0 L102 := by rw [l102]; exact Fr.app N0 (Fr.nil n0)
  subst hv102
  refine own_to ?_ (fun t k => st102.trans k)
  refine own_to (V := T102.setTop (mkF m 8 #[sR oa, sI 1, sI 2, sI 4, .unset] [(.int 4), (.int 2), (.int 1)])) ?_ fun t k => (by
    refine XS.istoreN X102.here hx rfl (hb hby d10_4) rfl (l' := #[sR oa, sI 1, sI 2, sI 4, .unset]) rfl ?_
    refine XS.iloadN X102.here hx rfl (hb hby d10_5) rfl ?_
    refine XS.iloadN X102.here hx rfl (hb hby d10_6) rfl ?_
    refine XS.iloadN X102.here hx rfl (hb hby d10_7) rfl ?_
    exact k)
  obtain ⟨_, T104, h104, L104, Lc104, X104, e104, hQ104, l104, st104⟩ := own_cS (own_rmcbbe l Z a0 hw hst [] (1 : Int32) (2 : Int32) (4 : Int32) h0 n0 X00 (by first | assumption | decide | omega | (simp; done) | rfl) (by first | assumption | decide | omega | (simp; done) | rfl) (by first | assumption | decide | omega | (simp; done) | rfl)) X102 hx hZ hown hh102 (own_i hw 76 rfl) (own_i hw 77 rfl) (own_i hw 3 rfl) (own_i hw 78 rfl) (by decide) (g := (mkF m 8 #[sR oa, sI 1, sI 2, sI 4, .unset] [(.int 4), (.int 2), (.int 1)])) rfl (by rw [hml]; rfl) (argsL := [(.int 1), (.int 2), (.int 4)]) (rest := []) (lenOf own_pd3 rfl) rfl rfl (hb hby d10_8) (W := 0) (Nat.le_of_eq rfl) (K := 0) (N := 0) rfl rfl (by decide) (by decide) (by decide) (by decide)
  obtain ⟨hv104, N104q, K104⟩ := hQ104
  subst hv104
  have Xo104 := X00.keep K104 all0
  have KK104 := KK0.trans K104 all0
  have N104 := l104 _ N102 N104q
  refine own_to ?_ st104
  refine own_to (V := T104.setTop (mkF m 28 #[sR oa, sI 1, sI 2, sI 4, sI 1] [(.ref oa)])) ?_ fun t k => (by
    refine XS.iloadN X104.here hx rfl (hb hby d10_11) rfl ?_
    refine XS.ifYes X104.here hx rfl (pc0 := 12) (pc' := 22) rfl (hb hby d10_12) rfl ((if0 _ _).trans (feq ((by decide) : ¬ ((1 : Int32) = (0 : Int32)))).2) (by decide) (by decide) ?_
    refine XS.iloadN X104.here hx rfl (hb hby d10_22) rfl ?_
    refine XS.iloadN X104.here hx rfl (hb hby d10_23) rfl ?_
    refine XS.isub X104.here hx rfl (hb hby d10_24) rfl ?_
    refine XS.istore X104.here hx rfl (hb hby d10_25) rfl (l' := #[sR oa, sI 1, sI 2, sI 4, sI 1]) rfl ?_
    refine XS.aloadN X104.here hx rfl (hb hby d10_27) rfl rfl ?_
    exact k)
  have F106 := (sE101.keep K104)
  have F107 := (sC101.keep K104 List.not_mem_nil)
  obtain ⟨_, T105, h105, L105, Lc105, X105, e105, hQ105, l105, st105⟩ := own_cV (own_rmisl1 l Z a0 hw hst [] oa h104 n0 Xo104 F106 F107) X104 hx hZ hown e104 F106 (own_i hw 84 rfl) (own_i hw 85 rfl) (notFace_of_selects (args := #[]) (mvT hZ (own_i hw 87 rfl))) (own_i hw 87 rfl) (own_i hw 86 rfl) (own_i hw 3 rfl) (own_i hw 88 rfl) (by decide) (g := (mkF m 28 #[sR oa, sI 1, sI 2, sI 4, sI 1] [(.ref oa)])) rfl (by rw [hml]; rfl) (argsL := []) (rest := []) (lenOf own_pd4 rfl) rfl rfl (hb hby d10_28) (W := 0) (Nat.le_of_eq rfl) (K := 0) (N := 0) rfl rfl (by decide) (by decide) (by decide) (by decide)
  obtain ⟨hv105, N105q, K105⟩ := hQ105
  subst hv105
  have Xo105 := Xo104.keep K105 all0
  have KK105 := KK104.trans K105 all0
  have N105 := l105 _ N104 N105q
  refine own_to ?_ st105
  refine own_to (V := T105.setTop (mkF m 35 #[sR oa, sI 1, sI 2, sI 4, sI 1] [(.ref oa)])) ?_ fun t k => (by
    refine XS.ifNo X105.here hx rfl (hb hby d10_31) rfl ((if0 _ _).trans (feq ((by decide) : ¬ ((1 : Int32) = (0 : Int32)))).1) ?_
    refine XS.aloadN X105.here hx rfl (hb hby d10_34) rfl rfl ?_
    exact k)
  have F108 := ((sV101.keep K104 List.not_mem_nil).keep K105 List.not_mem_nil)
  obtain ⟨T109, X109, e109, st109⟩ := getF X105 hx hZ hown (host := "") (Or.inl (own_i hw 28 rfl)) Via.refl e105 F108 (g := (mkF m 35 #[sR oa, sI 1, sI 2, sI 4, sI 1] [(.ref oa)])) rfl rfl (hb hby d10_35)
  refine own_to ?_ st109
  refine own_to (V := T109.setTop (mkF m 41 #[sR oa, sI 1, sI 2, sI 4, sI 1] [(.int 1), (.int 1), (.ref ua)])) ?_ fun t k => (by
    refine XS.iloadN X109.here hx rfl (hb hby d10_38) rfl ?_
    refine XS.iload X109.here hx rfl (hb hby d10_39) rfl ?_
    exact k)
  have F111 := ((sK101.keep K104 List.not_mem_nil).keep K105 List.not_mem_nil)
  obtain ⟨_, T110, h110, L110, Lc110, X110, e110, hQ110, l110, st110⟩ := own_cS (own_rmnst4_1_1 l Z a0 hw hst [] ua sk101 c0 c1 c2 c3 h105 n0 Xo105 l0 l1 l2 l3 F111) X109 hx hZ hown e109 (own_i hw 89 rfl) (own_i hw 90 rfl) (own_i hw 91 rfl) (own_i hw 92 rfl) (by decide) (g := (mkF m 41 #[sR oa, sI 1, sI 2, sI 4, sI 1] [(.int 1), (.int 1), (.ref ua)])) rfl (by rw [hml]; rfl) (argsL := [(.ref ua), (.int 1), (.int 1)]) (rest := []) (lenOf own_pd5 rfl) rfl rfl (hb hby d10_41) (W := 0) (Nat.le_of_eq rfl) (K := 2) (N := 5) rfl rfl (by decide) (by decide) (by decide) (by decide)
  obtain ⟨oo110, ou110, hv110, N110q, K110, g110_0⟩ := hQ110
  subst hv110
  have Xo110 := Xo105.keep K110 all0
  have KK110 := KK105.trans K110 all0
  have N110 := l110 _ N105 N110q
  refine own_to ?_ st110
  refine own_to (V := T110.setTop (mkF m 57 #[sR oa, sI 1, sI 2, sI 4, sI 1] [(.ref oo110)])) ?_ fun t k => (by
    refine XS.goto X110.here hx rfl (pc0 := 44) (pc' := 57) rfl (hb hby d10_44) (by decide) (by decide) ?_
    exact k)
  exact own_retR X110 hx hret (by decide) rfl hlk (hb hby d10_57) (by rw [e110]; exact (⟨oo110, ou110, rfl, N110, KK110, g110_0⟩)) (by decide) (by decide)
def own_Qtos12 (Z : State) (ow oa ua : Addr) (c0 c1 c2 c3 : Int32) (h0 : Heap) (n0 : Nat) (v : Option Value) (h : Heap) (L : List Loc) : Prop := (∃ (oo : Addr) (ou : Addr), v = some (.ref oo) ∧ Fr n0 L ∧ Keep h0 h [] ∧ (own_Str Z h oo ou ([c1] : List Int32)))
theorem own_ef_tos12 (m : MethodId) (ow : Addr)  : entryFrame m #[(.ref ow)] 1 = mkF m 0 #[sR ow] [] := by first | (simp [entryFrame, mkF, argsToLocals, Value.category]; done) | rfl
theorem own_rmtos12 (l : Launch) (Z : State) (a0 : Array Value) (hw : ∀ d ∈ tables_1, d.before a0 Z = true) (hst : own_St Z) (ws : List Jvm.Cond) (ow oa ua : Addr) (c0 c1 c2 c3 : Int32) (h0 : Heap) (n0 : Nat) (X00 : Old Z n0 h0) (l0 : ¬ c0 < 0 ∧ ¬ (255 : Int32) < c0) (l1 : ¬ c1 < 0 ∧ ¬ (255 : Int32) < c1) (l2 : ¬ c2 < 0 ∧ ¬ (255 : Int32) < c2) (l3 : ¬ c3 < 0 ∧ ¬ (255 : Int32) < c3) (hE : Exa Z h0 ow nm1) (f1 : Fld Z h0 ow nm1 "text" nm2 (.ref oa)) (f2 : Fld Z h0 ow nm1 "start" "I" (.int 1)) (f3 : Fld Z h0 ow nm1 "end" "I" (.int 2)) (hS : own_Str Z h0 oa ua ([c0, c1, c2, c3] : List Int32)) :
    own_MF l own_mn12 prog_77_method_5_code 1 (Option.some (Jvm.ClassFile.FieldType.object "java/lang/String")) ws (own_R 5 2 5 80) #[(.ref ow)] Z h0 (own_Qtos12 Z ow oa ua c0 c1 c2 c3 h0 n0) := by
  refine own_body (plainFor_of_name own_pn4) (fun m => own_ef_tos12 m ow ) ?_
  intro p e s m below meth c s₁ hx hby hret hlk hml hZ hown hnm hh X0 e0
  have N0 := Fr.nil n0
  have KK0 : Keep h0 h0 [] := Keep.refl h0 _
  obtain ⟨⟨G1, O2, P5⟩, ⟨G3, O4, rG3⟩, -⟩ := id hst
  refine own_to (V := s₁.setTop (mkF m 1 #[sR ow] [(.ref ow)])) ?_ fun t k => (by
    refine XS.aloadN X0.here hx rfl (hb hby d11_0) rfl rfl ?_
    exact k)
  obtain ⟨T101, X101, e101, st101⟩ := getF X0 hx hZ hown (host := "") (Or.inl (own_i hw 50 rfl)) Via.refl e0 f1 (g := (mkF m 1 #[sR ow] [(.ref ow)])) rfl rfl (hb hby d11_1)
  refine own_to ?_ st101
  refine own_to (V := T101.setTop (mkF m 5 #[sR ow] [(.ref ow), (.ref oa)])) ?_ fun t k => (by
    refine XS.aloadN X101.here hx rfl (hb hby d11_4) rfl rfl ?_
    exact k)
  obtain ⟨T102, X102, e102, st102⟩ := getF X101 hx hZ hown (host := "") (Or.inl (own_i hw 52 rfl)) Via.refl e101 f2 (g := (mkF m 5 #[sR ow] [(.ref ow), (.ref oa)])) rfl rfl (hb hby d11_5)
  refine own_to ?_ st102
  refine own_to (V := T102.setTop (mkF m 9 #[sR ow] [(.ref ow), (.int 1), (.ref oa)])) ?_ fun t k => (by
    refine XS.aloadN X102.here hx rfl (hb hby d11_8) rfl rfl ?_
    exact k)
  obtain ⟨T103, X103, e103, st103⟩ := getF X102 hx hZ hown (host := "") (Or.inl (own_i hw 54 rfl)) Via.refl e102 f3 (g := (mkF m 9 #[sR ow] [(.ref ow), (.int 1), (.ref oa)])) rfl rfl (hb hby d11_9)
  refine own_to ?_ st103
  obtain ⟨_, T104, h104, L104, Lc104, X104, e104, hQ104, l104, st104⟩ := own_cV (own_rmsub4_1_2 l Z a0 hw hst [] oa ua c0 c1 c2 c3 h0 n0 X00 l0 l1 l2 l3 hS) X103 hx hZ hown e103 hS.1 (own_i hw 61 rfl) (own_i hw 62 rfl) (notFace_of_selects (args := #[]) (mvT hZ (own_i hw 64 rfl))) (own_i hw 64 rfl) (own_i hw 63 rfl) (own_i hw 3 rfl) (own_i hw 65 rfl) (by decide) (g := (mkF m 12 #[sR ow] [(.int 2), (.int 1), (.ref oa)])) rfl (by rw [hml]; rfl) (argsL := [(.int 1), (.int 2)]) (rest := []) (lenOf own_pd6 rfl) rfl rfl (hb hby d11_12) (W := 0) (Nat.le_of_eq rfl) (K := 2) (N := 5) rfl rfl (by decide) (by decide) (by decide) (by decide)
  obtain ⟨oo104, ou104, hv104, N104q, K104, g104_0⟩ := hQ104
  subst hv104
  have Xo104 := X00.keep K104 all0
  have KK104 := KK0.trans K104 all0
  have N104 := l104 _ N0 N104q
  refine own_to ?_ st104
  exact own_retR X104 hx hret (by decide) rfl hlk (hb hby d11_15) (by rw [e104]; exact (⟨oo104, ou104, rfl, N104, KK104, g104_0⟩)) (by decide) (by decide)
def own_Qsm110 (Z : State) (oa ua ob : Addr) (kb : ClassId) (c0 c1 c2 c3 : Int32) (h0 : Heap) (n0 : Nat) (v : Option Value) (h : Heap) (L : List Loc) : Prop := (v = some (.int 1) ∧ Fr n0 L ∧ Keep h0 h [])
theorem own_ef_sm110 (m : MethodId) (oa : Addr) (ob : Addr)  : entryFrame m #[(.ref oa), (.int 0), (.ref ob), (.int 1), (.int 1)] 5 = mkF m 0 #[sR oa, sI 0, sR ob, sI 1, sI 1] [] := by first | (simp [entryFrame, mkF, argsToLocals, Value.category]; done) | rfl
theorem own_rmsm110 (l : Launch) (Z : State) (a0 : Array Value) (hw : ∀ d ∈ tables_1, d.before a0 Z = true) (hst : own_St Z) (ws : List Jvm.Cond) (oa ua ob : Addr) (kb : ClassId) (c0 c1 c2 c3 : Int32) (h0 : Heap) (n0 : Nat) (X00 : Old Z n0 h0) (l0 : ¬ c0 < 0 ∧ ¬ (255 : Int32) < c0) (l1 : ¬ c1 < 0 ∧ ¬ (255 : Int32) < c1) (l2 : ¬ c2 < 0 ∧ ¬ (255 : Int32) < c2) (l3 : ¬ c3 < 0 ∧ ¬ (255 : Int32) < c3) (hS : own_Str Z h0 oa ua ([c1] : List Int32)) (hA : Arv Z h0 ob kb .char (4 : Int32) [(.int c0), (.int c1), (.int c2), (.int c3)] (.int (0 : Int32))) :
    own_MF l own_mn15 method_2_code 5 (Option.some Jvm.ClassFile.FieldType.boolean) ws (own_R 4 0 0 53) #[(.ref oa), (.int 0), (.ref ob), (.int 1), (.int 1)] Z h0 (own_Qsm110 Z oa ua ob kb c0 c1 c2 c3 h0 n0) := by
  refine own_body (plainFor_of_name own_pn6) (fun m => own_ef_sm110 m oa ob ) ?_
  intro p e s m below meth c s₁ hx hby hret hlk hml hZ hown hnm hh X0 e0
  have N0 := Fr.nil n0
  have KK0 : Keep h0 h0 [] := Keep.refl h0 _
  obtain ⟨⟨G1, O2, P5⟩, ⟨G3, O4, rG3⟩, -⟩ := id hst
  refine own_to (V := s₁.setTop (mkF m 10 #[sR oa, sI 0, sR ob, sI 1, sI 1] [(.int 0), (.ref oa)])) ?_ fun t k => (by
    refine XS.iloadN X0.here hx rfl (hb hby d14_0) rfl ?_
    refine XS.iload X0.here hx rfl (hb hby d14_1) rfl ?_
    refine XS.icmpYes X0.here hx rfl (pc0 := 3) (pc' := 8) rfl (hb hby d14_3) rfl (tlt ((by decide) : (0 : Int32) < (1 : Int32))).1 (by decide) (by decide) ?_
    refine XS.aloadN X0.here hx rfl (hb hby d14_8) rfl rfl ?_
    refine XS.iloadN X0.here hx rfl (hb hby d14_9) rfl ?_
    exact k)
  obtain ⟨sN102, sk102, sv102, sE102, sV102, sC102, sK102, sc102, sb102, sl102⟩ := own_Str.latin hS (own_lat2 (own_allS l1 own_all0))
  obtain ⟨cq101, kq101, q101a, q101b, q101c⟩ := isOf hZ e0 hS.1
  obtain ⟨_, _, ⟨T101, L101, k101, n101⟩, -, X101, ⟨Lc101, hQ101, l101, y101, z101⟩, st101⟩ := X0.virtualBack hx (y := own_mn16) (z := own_mn16) hown (mvT hZ (own_i hw 117 rfl)) (mvT hZ (own_i hw 118 rfl)) (notFace_of_selects (args := #[]) (mvT hZ (own_i hw 120 rfl))) (mvT hZ (own_i hw 120 rfl)) (mvT hZ (own_i hw 119 rfl)) (by decide) (StrChars.Road.chN (W := 0) hZ (own_hch hw) (kI := 4) (own_i hw 2 rfl) sE102 sV102 sC102 sK102 sc102 sb102 (O2.ext X00.2) P5 (O4.ext X00.2) rG3 sl102 (i := 0) (Nat.le_of_ble_eq_true rfl) (j := (0 : Int32)) rfl (by decide) (by decide)) q101a q101c (g := (mkF m 10 #[sR oa, sI 0, sR ob, sI 1, sI 1] [(.int 0), (.ref oa)])) rfl (by rw [hml]; rfl) (Steps.refl _) (argsL := [(.int 0)]) (rest := []) (lenOf own_pd11 rfl) rfl (by show 2 * 0 + _ ≤ _; exact Nat.le_of_eq rfl) (hb hby d14_10) (fun _ _ => ⟨rfl, e0, (by decide : 0 + 0 ≤ _), (by decide : 0 + 0 ≤ _)⟩)
  dsimp only [own_R, Pt.U, Pt.locs, Pt.cells, Pt.slots] at X101 l101 y101 z101 st101 hQ101
  subst y101 z101
  obtain ⟨hv101, hL101, hh101⟩ := hQ101
  subst hL101
  have N101 : Fr n0 L101 := by rw [l101]; exact Fr.app N0 (Fr.nil n0)
  subst hv101
  refine own_to ?_ (fun t k => st101.trans k)
  refine own_to (V := T101.setTop (mkF m 17 #[sR oa, sI 0, sR ob, sI 1, sI 1] [(.int 1), (.ref ob), (.int c1)])) ?_ fun t k => (by
    refine XS.aloadN X101.here hx rfl (hb hby d14_13) rfl rfl ?_
    refine XS.iloadN X101.here hx rfl (hb hby d14_14) rfl ?_
    refine XS.iloadN X101.here hx rfl (hb hby d14_15) rfl ?_
    refine XS.iadd X101.here hx rfl (hb hby d14_16) rfl ?_
    exact k)
  obtain ⟨cl103, Ar103, q103, S103, M103, H103, G103⟩ := id hA
  have hin103 : ¬ ((1 : Int32) < 0 ∨ cl103.slots.size ≤ ((1 : Int32)).toNatClampNeg) := inb_of S103 ⟨by decide, by decide⟩
  refine own_to (V := T101.setTop (mkF m 18 #[sR oa, sI 0, sR ob, sI 1, sI 1] [(.int c1), (.int c1)])) ?_ (fun t k => X101.caload hx (j := (1 : Int32)) (v := (.int c1)) (by rw [hh101]; exact Ar103.1) (State.isArrayOf_alike hZ.alike Ar103.2.1) Ar103.2.2 hin103 (Has.at H103 hin103 rfl) (g := (mkF m 17 #[sR oa, sI 0, sR ob, sI 1, sI 1] [(.int 1), (.ref ob), (.int c1)])) rfl rfl (hb hby d14_17) t k)
  refine own_to (V := T101.setTop (mkF m 26 #[sR oa, sI 0, sR ob, sI 1, sI 1] [(.int 1)])) ?_ fun t k => (by
    refine XS.icmpNo X101.here hx rfl (hb hby d14_18) rfl (teq (rfl : c1 = c1)).2 ?_
    refine XS.iconst X101.here hx rfl (hb hby d14_21) ?_
    refine XS.goto X101.here hx rfl (pc0 := 22) (pc' := 26) rfl (hb hby d14_22) (by decide) (by decide) ?_
    exact k)
  exact own_retN X101 hx (t := .boolean) (w := (1 : Int32)) hret (by decide) rfl hlk (hb hby d14_26) (by rw [hh101]; exact (⟨rfl, N101, KK0⟩)) (by decide) (by decide)
def own_Qcrb4_1_3 (Z : State) (ob : Addr) (kb : ClassId) (d0 d1 d2 d3 : Int32) (h0 : Heap) (n0 : Nat) (v : Option Value) (h : Heap) (L : List Loc) : Prop := (∃ (oo : Addr) (ko : ClassId), v = some (.ref oo) ∧ Fr n0 L ∧ Keep h0 h [] ∧ (Arv Z h oo ko .byte (2 : Int32) [(.int d1), (.int d2)] (.int (0 : Int32))) ∧ (h0.size ≤ oo))
theorem own_ef_crb4_1_3 (m : MethodId) (ob : Addr)  : entryFrame m #[(.ref ob), (.int 1), (.int 3)] 5 = mkF m 0 #[sR ob, sI 1, sI 3, .unset, .unset] [] := by first | (simp [entryFrame, mkF, argsToLocals, Value.category]; done) | rfl
theorem own_rmcrb4_1_3 (l : Launch) (Z : State) (a0 : Array Value) (hw : ∀ d ∈ tables_1, d.before a0 Z = true) (hst : own_St Z) (ws : List Jvm.Cond) (ob : Addr) (kb : ClassId) (d0 d1 d2 d3 : Int32) (h0 : Heap) (n0 : Nat) (X00 : Old Z n0 h0) (hA : Arv Z h0 ob kb .byte (4 : Int32) [(.int d0), (.int d1), (.int d2), (.int d3)] (.int (0 : Int32))) :
    own_MF l own_mn13 jdk_65_method_133_code 5 (Option.some (Jvm.ClassFile.FieldType.array Jvm.ClassFile.FieldType.byte)) ws (own_R 1 1 2 18) #[(.ref ob), (.int 1), (.int 3)] Z h0 (own_Qcrb4_1_3 Z ob kb d0 d1 d2 d3 h0 n0) := by
  refine own_body (plainFor_of_name own_pn0) (fun m => own_ef_crb4_1_3 m ob ) ?_
  intro p e s m below meth c s₁ hx hby hret hlk hml hZ hown hnm hh X0 e0
  have N0 := Fr.nil n0
  have KK0 : Keep h0 h0 [] := Keep.refl h0 _
  obtain ⟨⟨G1, O2, P5⟩, ⟨G3, O4, rG3⟩, -⟩ := id hst
  refine own_to (V := s₁.setTop (mkF m 2 #[sR ob, sI 1, sI 3, .unset, .unset] [(.int 3), (.int 1)])) ?_ fun t k => (by
    refine XS.iloadN X0.here hx rfl (hb hby d12_0) rfl ?_
    refine XS.iloadN X0.here hx rfl (hb hby d12_1) rfl ?_
    exact k)
  obtain ⟨_, T101, h101, L101, Lc101, X101, e101, hQ101, l101, st101⟩ := own_cS (own_rmckl l Z a0 hw hst [] (1 : Int32) (3 : Int32) h0 n0 X00 (by first | assumption | decide | omega | (simp; done) | rfl)) X0 hx hZ hown e0 (own_i hw 101 rfl) (own_i hw 102 rfl) (own_i hw 96 rfl) (own_i hw 103 rfl) (by decide) (g := (mkF m 2 #[sR ob, sI 1, sI 3, .unset, .unset] [(.int 3), (.int 1)])) rfl (by rw [hml]; rfl) (argsL := [(.int 1), (.int 3)]) (rest := []) (lenOf own_pd7 rfl) rfl rfl (hb hby d12_2) (W := 0) (Nat.le_of_eq rfl) (K := 0) (N := 0) rfl rfl (by decide) (by decide) (by decide) (by decide)
  obtain ⟨hv101, N101q, K101⟩ := hQ101
  subst hv101
  have Xo101 := X00.keep K101 all0
  have KK101 := KK0.trans K101 all0
  have N101 := l101 _ N0 N101q
  refine own_to ?_ st101
  refine own_to (V := T101.setTop (mkF m 10 #[sR ob, sI 1, sI 3, sI 2, .unset] [(.int 2)])) ?_ fun t k => (by
    refine XS.iloadN X101.here hx rfl (hb hby d12_5) rfl ?_
    refine XS.iloadN X101.here hx rfl (hb hby d12_6) rfl ?_
    refine XS.isub X101.here hx rfl (hb hby d12_7) rfl ?_
    refine XS.istoreN X101.here hx rfl (hb hby d12_8) rfl (l' := #[sR ob, sI 1, sI 3, sI 2, .unset]) rfl ?_
    refine XS.iloadN X101.here hx rfl (hb hby d12_9) rfl ?_
    exact k)
  obtain ⟨T102, h102, k102, X102, e102, E102, A102, st102⟩ := newP X101 hx hZ (own_i hw 19 rfl) e101 (g := (mkF m 10 #[sR ob, sI 1, sI 3, sI 2, .unset] [(.int 2)])) rfl (hb hby d12_10) rfl (by decide) (cap := 2) (by decide) (by decide) (by decide) (by decide)
  obtain ⟨b102, g102⟩ : ∃ z, z = h101.size := ⟨_, rfl⟩
  rw [← g102] at A102 st102
  have Xo102 := Xo101.ext E102
  have KK102 := KK101.ext E102
  have ge_b102 := Nat.le_trans (own_ole Xo101) (Nat.le_of_eq g102.symm)
  have sz_b102 := Nat.le_trans KK101.1 (Nat.le_of_eq g102.symm)
  have V102 : Arv Z h102 b102 k102 .byte (2 : Int32) [(.int 0), (.int 0)] (.int (0 : Int32)) := (Arv.new A102 (by decide)).pad (pad_rep [] (.int (0 : Int32)) 2)
  refine own_to ?_ st102
  refine own_to (V := T102.setTop (mkF m 20 #[sR ob, sI 1, sI 3, sI 2, sR b102] [(.ref ob), (.int 0), (.ref b102), (.int 1), (.ref ob)])) ?_ fun t k => (by
    refine XS.astore X102.here hx rfl (hb hby d12_12) rfl rfl (l' := #[sR ob, sI 1, sI 3, sI 2, sR b102]) rfl ?_
    refine XS.aloadN X102.here hx rfl (hb hby d12_14) rfl rfl ?_
    refine XS.iloadN X102.here hx rfl (hb hby d12_15) rfl ?_
    refine XS.aload X102.here hx rfl (hb hby d12_16) rfl rfl ?_
    refine XS.iconst X102.here hx rfl (hb hby d12_18) ?_
    refine XS.aloadN X102.here hx rfl (hb hby d12_19) rfl rfl ?_
    exact k)
  have F103 := ((hA.keep K101 List.not_mem_nil).ext E102)
  obtain ⟨cl104, Ar104, q104, S104, M104, H104, G104⟩ := id F103
  refine own_to (V := T102.setTop (mkF m 21 #[sR ob, sI 1, sI 3, sI 2, sR b102] [(.int 4), (.int 0), (.ref b102), (.int 1), (.ref ob)])) ?_ (fun t k => X102.arraylength hx (by rw [e102]; exact Ar104.1) (State.isArrayOf_alike hZ.alike Ar104.2.1) (g := (mkF m 20 #[sR ob, sI 1, sI 3, sI 2, sR b102] [(.ref ob), (.int 0), (.ref b102), (.int 1), (.ref ob)])) rfl rfl (hb hby d12_20) t (by rw [len_of S104 M104]; exact k))
  refine own_to (V := T102.setTop (mkF m 24 #[sR ob, sI 1, sI 3, sI 2, sR b102] [(.int 2), (.int 3), (.int 0), (.ref b102), (.int 1), (.ref ob)])) ?_ fun t k => (by
    refine XS.iloadN X102.here hx rfl (hb hby d12_21) rfl ?_
    refine XS.isub X102.here hx rfl (hb hby d12_22) rfl ?_
    refine XS.iloadN X102.here hx rfl (hb hby d12_23) rfl ?_
    exact k)
  obtain ⟨_, T105, h105, L105, Lc105, X105, e105, hQ105, l105, st105⟩ := own_cS (own_rmmamin l Z a0 hw hst [] (3 : Int32) (2 : Int32) h102 n0 Xo102 ) X102 hx hZ hown e102 (own_i hw 104 rfl) (own_i hw 32 rfl) (own_i hw 33 rfl) (own_i hw 34 rfl) (by decide) (g := (mkF m 24 #[sR ob, sI 1, sI 3, sI 2, sR b102] [(.int 2), (.int 3), (.int 0), (.ref b102), (.int 1), (.ref ob)])) rfl (by rw [hml]; rfl) (argsL := [(.int 3), (.int 2)]) (rest := [(.int 0), (.ref b102), (.int 1), (.ref ob)]) (lenOf own_pd8 rfl) rfl rfl (hb hby d12_24) (W := 4) (Nat.le_of_eq rfl) (K := 1) (N := 2) rfl rfl (by decide) (by decide) (by decide) (by decide)
  rcases hQ105 with ⟨hv105, N105q, K105, g105_0⟩ | ⟨hv105, N105q, K105, g105_0⟩
  ·skip
   subst hv105
   have Xo105 := Xo102.keep K105 all0
   have KK105 := KK102.trans K105 all0
   have N105 := l105 _ N101 N105q
   exact absurd (by decide) g105_0
  ·skip
   subst hv105
   have Xo105 := Xo102.keep K105 all0
   have KK105 := KK102.trans K105 all0
   have N105 := l105 _ N101 N105q
   refine own_to ?_ st105
   have F107 := (F103.keep K105 List.not_mem_nil)
   have F108 := (V102.keep K105 List.not_mem_nil)
   obtain ⟨T106, h106, L106, X106, e106, N106, K106, V106', st106⟩ := cpA X105 hx hZ hown (own_i hw 105 rfl) (own_i hw 108 rfl) (own_i hw 106 rfl) (own_i hw 107 rfl) e105 (sp := (1 : Int32)) (dp := (0 : Int32)) (nn := (2 : Int32)) (us := [(.int d1), (.int d2)]) F107 F108 (Or.inl ⟨rfl, rfl⟩) (by decide) (by decide) (by decide) (by decide) (by decide) rfl (Nat.le_of_ble_eq_true rfl) N105 ge_b102 (g := (mkF m 27 #[sR ob, sI 1, sI 3, sI 2, sR b102] [(.int 2), (.int 0), (.ref b102), (.int 1), (.ref ob)])) rfl (by rw [hml]; rfl) (rest := []) rfl (hb hby d12_27) (by decide) (W := 0) (by show 2 * 0 + _ ≤ _; exact Nat.le_of_eq rfl) (by decide)
   have Xo106 := Xo105.keep K106 (allS ge_b102 all0)
   have KK106 := KK105.trans K106 (allS (Or.inr sz_b102) all0)
   have V106 : Arv Z h106 b102 k102 .byte (2 : Int32) [(.int d1), (.int d2)] (.int (0 : Int32)) := V106'
   refine own_to ?_ st106
   refine own_to (V := T106.setTop (mkF m 32 #[sR ob, sI 1, sI 3, sI 2, sR b102] [(.ref b102)])) ?_ fun t k => (by
     refine XS.aload X106.here hx rfl (hb hby d12_30) rfl rfl ?_
     exact k)
   exact own_retR X106 hx hret (by decide) rfl hlk (hb hby d12_32) (by rw [e106]; exact (⟨b102, k102, rfl, N106, KK106, V106, sz_b102⟩)) (by decide) (by decide)
def own_Qcor4_1_3 (Z : State) (ob : Addr) (kb : ClassId) (d0 d1 d2 d3 : Int32) (h0 : Heap) (n0 : Nat) (v : Option Value) (h : Heap) (L : List Loc) : Prop := (∃ (oo : Addr) (ko : ClassId), v = some (.ref oo) ∧ Fr n0 L ∧ Keep h0 h [] ∧ (Arv Z h oo ko .byte (2 : Int32) [(.int d1), (.int d2)] (.int (0 : Int32))) ∧ (h0.size ≤ oo))
theorem own_ef_cor4_1_3 (m : MethodId) (ob : Addr)  : entryFrame m #[(.ref ob), (.int 1), (.int 3)] 3 = mkF m 0 #[sR ob, sI 1, sI 3] [] := by first | (simp [entryFrame, mkF, argsToLocals, Value.category]; done) | rfl
theorem own_rmcor4_1_3 (l : Launch) (Z : State) (a0 : Array Value) (hw : ∀ d ∈ tables_1, d.before a0 Z = true) (hst : own_St Z) (ws : List Jvm.Cond) (ob : Addr) (kb : ClassId) (d0 d1 d2 d3 : Int32) (h0 : Heap) (n0 : Nat) (X00 : Old Z n0 h0) (hA : Arv Z h0 ob kb .byte (4 : Int32) [(.int d0), (.int d1), (.int d2), (.int d3)] (.int (0 : Int32))) :
    own_MF l own_mn14 jdk_65_method_132_code 3 (Option.some (Jvm.ClassFile.FieldType.array Jvm.ClassFile.FieldType.byte)) ws (own_R 2 1 2 34) #[(.ref ob), (.int 1), (.int 3)] Z h0 (own_Qcor4_1_3 Z ob kb d0 d1 d2 d3 h0 n0) := by
  refine own_body (plainFor_of_name own_pn0) (fun m => own_ef_cor4_1_3 m ob ) ?_
  intro p e s m below meth c s₁ hx hby hret hlk hml hZ hown hnm hh X0 e0
  have N0 := Fr.nil n0
  have KK0 : Keep h0 h0 [] := Keep.refl h0 _
  obtain ⟨⟨G1, O2, P5⟩, ⟨G3, O4, rG3⟩, -⟩ := id hst
  refine own_to (V := s₁.setTop (mkF m 13 #[sR ob, sI 1, sI 3] [(.int 3), (.int 1), (.ref ob)])) ?_ fun t k => (by
    refine XS.iloadN X0.here hx rfl (hb hby d13_0) rfl ?_
    refine XS.ifYes X0.here hx rfl (pc0 := 1) (pc' := 10) rfl (hb hby d13_1) rfl ((if0 _ _).trans (feq ((by decide) : ¬ ((1 : Int32) = (0 : Int32)))).2) (by decide) (by decide) ?_
    refine XS.aloadN X0.here hx rfl (hb hby d13_10) rfl rfl ?_
    refine XS.iloadN X0.here hx rfl (hb hby d13_11) rfl ?_
    refine XS.iloadN X0.here hx rfl (hb hby d13_12) rfl ?_
    exact k)
  obtain ⟨_, T101, h101, L101, Lc101, X101, e101, hQ101, l101, st101⟩ := own_cS (own_rmcrb4_1_3 l Z a0 hw hst [] ob kb d0 d1 d2 d3 h0 n0 X00 hA) X0 hx hZ hown e0 (own_i hw 98 rfl) (own_i hw 99 rfl) (own_i hw 96 rfl) (own_i hw 100 rfl) (by decide) (g := (mkF m 13 #[sR ob, sI 1, sI 3] [(.int 3), (.int 1), (.ref ob)])) rfl (by rw [hml]; rfl) (argsL := [(.ref ob), (.int 1), (.int 3)]) (rest := []) (lenOf own_pd9 rfl) rfl rfl (hb hby d13_13) (W := 0) (Nat.le_of_eq rfl) (K := 1) (N := 2) rfl rfl (by decide) (by decide) (by decide) (by decide)
  obtain ⟨oo101, ko101, hv101, N101q, K101, g101_0, g101_1⟩ := hQ101
  subst hv101
  have Xo101 := X00.keep K101 all0
  have KK101 := KK0.trans K101 all0
  have N101 := l101 _ N0 N101q
  have ge_oo101 := Nat.le_trans (own_ole X00) g101_1
  have sz_oo101 := Nat.le_trans KK0.1 g101_1
  refine own_to ?_ st101
  exact own_retR X101 hx hret (by decide) rfl hlk (hb hby d13_16) (by rw [e101]; exact (⟨oo101, ko101, rfl, N101, KK101, g101_0, sz_oo101⟩)) (by decide) (by decide)
def own_Qnst4_1_2 (Z : State) (ob : Addr) (kb : ClassId) (c0 c1 c2 c3 : Int32) (h0 : Heap) (n0 : Nat) (v : Option Value) (h : Heap) (L : List Loc) : Prop := (∃ (oo : Addr) (ou : Addr), v = some (.ref oo) ∧ Fr n0 L ∧ Keep h0 h [] ∧ (own_Str Z h oo ou ([c1, c2] : List Int32)))
theorem own_ef_nst4_1_2 (m : MethodId) (ob : Addr)  : entryFrame m #[(.ref ob), (.int 1), (.int 2)] 3 = mkF m 0 #[sR ob, sI 1, sI 2] [] := by first | (simp [entryFrame, mkF, argsToLocals, Value.category]; done) | rfl
theorem own_rmnst4_1_2 (l : Launch) (Z : State) (a0 : Array Value) (hw : ∀ d ∈ tables_1, d.before a0 Z = true) (hst : own_St Z) (ws : List Jvm.Cond) (ob : Addr) (kb : ClassId) (c0 c1 c2 c3 : Int32) (h0 : Heap) (n0 : Nat) (X00 : Old Z n0 h0) (l0 : ¬ c0 < 0 ∧ ¬ (255 : Int32) < c0) (l1 : ¬ c1 < 0 ∧ ¬ (255 : Int32) < c1) (l2 : ¬ c2 < 0 ∧ ¬ (255 : Int32) < c2) (l3 : ¬ c3 < 0 ∧ ¬ (255 : Int32) < c3) (hA : Arv Z h0 ob kb .byte (4 : Int32) [(.int (StrChars.lo8 c0)), (.int (StrChars.lo8 c1)), (.int (StrChars.lo8 c2)), (.int (StrChars.lo8 c3))] (.int (0 : Int32))) :
    own_MF l own_mn9 jdk_43_method_47_code 3 (Option.some (Jvm.ClassFile.FieldType.object "java/lang/String")) ws (own_R 3 2 6 50) #[(.ref ob), (.int 1), (.int 2)] Z h0 (own_Qnst4_1_2 Z ob kb c0 c1 c2 c3 h0 n0) := by
  refine own_body (plainFor_of_name own_pn5) (fun m => own_ef_nst4_1_2 m ob ) ?_
  intro p e s m below meth c s₁ hx hby hret hlk hml hZ hown hnm hh X0 e0
  have N0 := Fr.nil n0
  have KK0 : Keep h0 h0 [] := Keep.refl h0 _
  obtain ⟨⟨G1, O2, P5⟩, ⟨G3, O4, rG3⟩, -⟩ := id hst
  refine own_to (V := s₁.setTop (mkF m 7 #[sR ob, sI 1, sI 2] [])) ?_ fun t k => (by
    refine XS.iloadN X0.here hx rfl (hb hby d9_0) rfl ?_
    refine XS.ifYes X0.here hx rfl (pc0 := 1) (pc' := 7) rfl (hb hby d9_1) rfl ((if0 _ _).trans (feq ((by decide) : ¬ ((2 : Int32) = (0 : Int32)))).2) (by decide) (by decide) ?_
    exact k)
  obtain ⟨T101, h101, X101, e101, E101, A101, D101, U101, st101⟩ := newO X0 hx hZ hown (own_i hw 93 rfl) (own_i hw 2 rfl) (own_i hw 3 rfl) e0 (g := (mkF m 7 #[sR ob, sI 1, sI 2] [])) rfl (hb hby d9_7) (by decide) (by decide)
  obtain ⟨b101, g101⟩ : ∃ z, z = h0.size := ⟨_, rfl⟩
  rw [← g101] at A101 D101 U101 st101
  have Xo101 := X00.ext E101
  have KK101 := KK0.ext E101
  have ge_b101 := Nat.le_trans (own_ole X00) (Nat.le_of_eq g101.symm)
  have sz_b101 := Nat.le_trans KK0.1 (Nat.le_of_eq g101.symm)
  have Fi101_27 : Fld Z h101 b101 nm0 "coder" "B" (.int 0) := D101 (Or.inr (own_i hw 27 rfl)) (ty := .byte) (by decide)
  have Fi101_29 : Fld Z h101 b101 nm0 "value" "[B" .null := D101 (Or.inr (own_i hw 29 rfl)) (ty := (.array .byte)) (by decide)
  refine own_to ?_ st101
  refine own_to (V := T101.setTop (mkF m 16 #[sR ob, sI 1, sI 2] [(.int 3), (.int 1), (.ref ob), (.ref b101), (.ref b101)])) ?_ fun t k => (by
    refine XS.dup X101.here hx rfl (hb hby d9_10) rfl rfl ?_
    refine XS.aloadN X101.here hx rfl (hb hby d9_11) rfl rfl ?_
    refine XS.iloadN X101.here hx rfl (hb hby d9_12) rfl ?_
    refine XS.iloadN X101.here hx rfl (hb hby d9_13) rfl ?_
    refine XS.iloadN X101.here hx rfl (hb hby d9_14) rfl ?_
    refine XS.iadd X101.here hx rfl (hb hby d9_15) rfl ?_
    exact k)
  have F103 := (hA.ext E101)
  obtain ⟨_, T102, h102, L102, Lc102, X102, e102, hQ102, l102, st102⟩ := own_cS (own_rmcor4_1_3 l Z a0 hw hst [] ob kb (StrChars.lo8 c0) (StrChars.lo8 c1) (StrChars.lo8 c2) (StrChars.lo8 c3) h101 n0 Xo101 F103) X101 hx hZ hown e101 (own_i hw 94 rfl) (own_i hw 95 rfl) (own_i hw 96 rfl) (own_i hw 97 rfl) (by decide) (g := (mkF m 16 #[sR ob, sI 1, sI 2] [(.int 3), (.int 1), (.ref ob), (.ref b101), (.ref b101)])) rfl (by rw [hml]; rfl) (argsL := [(.ref ob), (.int 1), (.int 3)]) (rest := [(.ref b101), (.ref b101)]) (lenOf own_pd9 rfl) rfl rfl (hb hby d9_16) (W := 2) (Nat.le_of_eq rfl) (K := 2) (N := 6) rfl rfl (by decide) (by decide) (by decide) (by decide)
  obtain ⟨oo102, ko102, hv102, N102q, K102, g102_0, g102_1⟩ := hQ102
  subst hv102
  have Xo102 := Xo101.keep K102 all0
  have KK102 := KK101.trans K102 all0
  have N102 := l102 _ N0 N102q
  have ge_oo102 := Nat.le_trans (own_ole Xo101) g102_1
  have sz_oo102 := Nat.le_trans KK101.1 g102_1
  refine own_to ?_ st102
  refine own_to (V := T102.setTop (mkF m 20 #[sR ob, sI 1, sI 2] [(.int 0), (.ref oo102), (.ref b101), (.ref b101)])) ?_ fun t k => (by
    refine XS.iconst X102.here hx rfl (hb hby d9_19) ?_
    exact k)
  have F105 := (A101.keep K102)
  have F106 := (Fi101_29.keep K102 List.not_mem_nil)
  have F107 := (Fi101_27.keep K102 List.not_mem_nil)
  obtain ⟨_, T104, h104, L104, Lc104, X104, e104, hQ104, l104, st104⟩ := own_cI (own_rmsibb l Z a0 hw hst [] b101 oo102 h102 n0 Xo102 F105 F106 F107 ge_b101) X102 hx hZ hown e102 rfl (own_i hw 109 rfl) (own_i hw 110 rfl) (own_i hw 3 rfl) (own_i hw 111 rfl) (by decide) (g := (mkF m 20 #[sR ob, sI 1, sI 2] [(.int 0), (.ref oo102), (.ref b101), (.ref b101)])) rfl (by rw [hml]; rfl) (argsL := [(.ref oo102), (.int 0)]) (rest := [(.ref b101)]) (lenOf own_pd10 rfl) rfl rfl (hb hby d9_20) (W := 1) (Nat.le_of_eq rfl) (K := 2) (N := 6) rfl rfl (by decide) (by decide) (by decide) (by decide)
  obtain ⟨hv104, N104q, K104, g104_0, g104_1⟩ := hQ104
  subst hv104
  have Xo104 := Xo102.keep K104 (allS ge_b101 all0)
  have KK104 := KK102.trans K104 (allS (Or.inr sz_b101) all0)
  have N104 := l104 _ N102 N104q
  refine own_to ?_ st104
  have F109 := (F105.keep K104)
  have F110 := (g102_0.keep K104 (own_nmS (Ne.symm (Nat.ne_of_lt (Nat.lt_of_lt_of_le A101.lt g102_1))) own_nm0))
  have Fz108 : own_Str Z h104 b101 oo102 ([c1, c2] : List Int32) := own_mkLit F109 g104_0 g104_1 F110 rfl (own_allS l1 (own_allS l2 own_all0)) rfl (Nat.le_of_ble_eq_true rfl)
  exact own_retR X104 hx hret (by decide) rfl hlk (hb hby d9_23) (by rw [e104]; exact (⟨b101, oo102, rfl, N104, KK104, Fz108⟩)) (by decide) (by decide)
def own_Qsub4_1_3 (Z : State) (oa ua : Addr) (c0 c1 c2 c3 : Int32) (h0 : Heap) (n0 : Nat) (v : Option Value) (h : Heap) (L : List Loc) : Prop := (∃ (oo : Addr) (ou : Addr), v = some (.ref oo) ∧ Fr n0 L ∧ Keep h0 h [] ∧ (own_Str Z h oo ou ([c1, c2] : List Int32)))
theorem own_ef_sub4_1_3 (m : MethodId) (oa : Addr)  : entryFrame m #[(.ref oa), (.int 1), (.int 3)] 5 = mkF m 0 #[sR oa, sI 1, sI 3, .unset, .unset] [] := by first | (simp [entryFrame, mkF, argsToLocals, Value.category]; done) | rfl
theorem own_rmsub4_1_3 (l : Launch) (Z : State) (a0 : Array Value) (hw : ∀ d ∈ tables_1, d.before a0 Z = true) (hst : own_St Z) (ws : List Jvm.Cond) (oa ua : Addr) (c0 c1 c2 c3 : Int32) (h0 : Heap) (n0 : Nat) (X00 : Old Z n0 h0) (l0 : ¬ c0 < 0 ∧ ¬ (255 : Int32) < c0) (l1 : ¬ c1 < 0 ∧ ¬ (255 : Int32) < c1) (l2 : ¬ c2 < 0 ∧ ¬ (255 : Int32) < c2) (l3 : ¬ c3 < 0 ∧ ¬ (255 : Int32) < c3) (hS : own_Str Z h0 oa ua ([c0, c1, c2, c3] : List Int32)) :
    own_MF l own_mn10 jdk_42_method_92_code 5 (Option.some (Jvm.ClassFile.FieldType.object "java/lang/String")) ws (own_R 4 2 6 64) #[(.ref oa), (.int 1), (.int 3)] Z h0 (own_Qsub4_1_3 Z oa ua c0 c1 c2 c3 h0 n0) := by
  refine own_body (plainFor_of_name own_pn2) (fun m => own_ef_sub4_1_3 m oa ) ?_
  intro p e s m below meth c s₁ hx hby hret hlk hml hZ hown hnm hh X0 e0
  have N0 := Fr.nil n0
  have KK0 : Keep h0 h0 [] := Keep.refl h0 _
  obtain ⟨⟨G1, O2, P5⟩, ⟨G3, O4, rG3⟩, -⟩ := id hst
  obtain ⟨sk101, sE101, sV101, sC101, sK101', sb101⟩ := own_Str.latinL hS (own_lat2 (own_allS l0 (own_allS l1 (own_allS l2 (own_allS l3 own_all0)))))
  have sK101 : Arv Z h0 ua sk101 .byte (4 : Int32) [(.int (StrChars.lo8 c0)), (.int (StrChars.lo8 c1)), (.int (StrChars.lo8 c2)), (.int (StrChars.lo8 c3))] (.int (0 : Int32)) := sK101'
  refine own_to (V := s₁.setTop (mkF m 1 #[sR oa, sI 1, sI 3, .unset, .unset] [(.ref oa)])) ?_ fun t k => (by
    refine XS.aloadN X0.here hx rfl (hb hby d10_0) rfl rfl ?_
    exact k)
  obtain ⟨sE103, sd103, sN103, sk103, sv103, sV103, sC103, sK103, sc103, sb103, sl103⟩ := id hS
  obtain ⟨cq102, kq102, q102a, q102b, q102c⟩ := isOf hZ e0 sE101
  obtain ⟨_, _, ⟨T102, L102, k102, n102⟩, -, X102, ⟨Lc102, hQ102, l102, y102, z102⟩, st102⟩ := X0.virtualBack hx (y := own_mn11) (z := own_mn11) hown (mvT hZ (own_i hw 66 rfl)) (mvT hZ (own_i hw 67 rfl)) (notFace_of_selects (args := #[]) (mvT hZ (own_i hw 69 rfl))) (mvT hZ (own_i hw 69 rfl)) (mvT hZ (own_i hw 68 rfl)) (by decide) (StrChars.Road.lenW (W := 0) hZ (own_hln hw) (kI := 4) (own_i hw 2 rfl) sE103 sV103 sC103 sK103 sc103 sb103 (O2.ext X00.2) P5 sl103 (by decide) (by decide)) q102a q102c (g := (mkF m 1 #[sR oa, sI 1, sI 3, .unset, .unset] [(.ref oa)])) rfl (by rw [hml]; rfl) (Steps.refl _) (argsL := []) (rest := []) (lenOf own_pd2 rfl) rfl (by show 2 * 0 + _ ≤ _; exact Nat.le_of_eq rfl) (hb hby d10_1) (fun _ _ => ⟨rfl, e0, (by decide : 0 + 0 ≤ _), (by decide : 0 + 0 ≤ _)⟩)
  dsimp only [own_R, Pt.U, Pt.locs, Pt.cells, Pt.slots] at X102 l102 y102 z102 st102 hQ102
  subst y102 z102
  obtain ⟨hv102, hL102, hh102⟩ := hQ102
  subst hL102
  have N102 : Fr n0 L102 := by rw [l102]; exact Fr.app N0 (Fr.nil n0)
  subst hv102
  refine own_to ?_ (fun t k => st102.trans k)
  refine own_to (V := T102.setTop (mkF m 8 #[sR oa, sI 1, sI 3, sI 4, .unset] [(.int 4), (.int 3), (.int 1)])) ?_ fun t k => (by
    refine XS.istoreN X102.here hx rfl (hb hby d10_4) rfl (l' := #[sR oa, sI 1, sI 3, sI 4, .unset]) rfl ?_
    refine XS.iloadN X102.here hx rfl (hb hby d10_5) rfl ?_
    refine XS.iloadN X102.here hx rfl (hb hby d10_6) rfl ?_
    refine XS.iloadN X102.here hx rfl (hb hby d10_7) rfl ?_
    exact k)
  obtain ⟨_, T104, h104, L104, Lc104, X104, e104, hQ104, l104, st104⟩ := own_cS (own_rmcbbe l Z a0 hw hst [] (1 : Int32) (3 : Int32) (4 : Int32) h0 n0 X00 (by first | assumption | decide | omega | (simp; done) | rfl) (by first | assumption | decide | omega | (simp; done) | rfl) (by first | assumption | decide | omega | (simp; done) | rfl)) X102 hx hZ hown hh102 (own_i hw 76 rfl) (own_i hw 77 rfl) (own_i hw 3 rfl) (own_i hw 78 rfl) (by decide) (g := (mkF m 8 #[sR oa, sI 1, sI 3, sI 4, .unset] [(.int 4), (.int 3), (.int 1)])) rfl (by rw [hml]; rfl) (argsL := [(.int 1), (.int 3), (.int 4)]) (rest := []) (lenOf own_pd3 rfl) rfl rfl (hb hby d10_8) (W := 0) (Nat.le_of_eq rfl) (K := 0) (N := 0) rfl rfl (by decide) (by decide) (by decide) (by decide)
  obtain ⟨hv104, N104q, K104⟩ := hQ104
  subst hv104
  have Xo104 := X00.keep K104 all0
  have KK104 := KK0.trans K104 all0
  have N104 := l104 _ N102 N104q
  refine own_to ?_ st104
  refine own_to (V := T104.setTop (mkF m 28 #[sR oa, sI 1, sI 3, sI 4, sI 2] [(.ref oa)])) ?_ fun t k => (by
    refine XS.iloadN X104.here hx rfl (hb hby d10_11) rfl ?_
    refine XS.ifYes X104.here hx rfl (pc0 := 12) (pc' := 22) rfl (hb hby d10_12) rfl ((if0 _ _).trans (feq ((by decide) : ¬ ((1 : Int32) = (0 : Int32)))).2) (by decide) (by decide) ?_
    refine XS.iloadN X104.here hx rfl (hb hby d10_22) rfl ?_
    refine XS.iloadN X104.here hx rfl (hb hby d10_23) rfl ?_
    refine XS.isub X104.here hx rfl (hb hby d10_24) rfl ?_
    refine XS.istore X104.here hx rfl (hb hby d10_25) rfl (l' := #[sR oa, sI 1, sI 3, sI 4, sI 2]) rfl ?_
    refine XS.aloadN X104.here hx rfl (hb hby d10_27) rfl rfl ?_
    exact k)
  have F106 := (sE101.keep K104)
  have F107 := (sC101.keep K104 List.not_mem_nil)
  obtain ⟨_, T105, h105, L105, Lc105, X105, e105, hQ105, l105, st105⟩ := own_cV (own_rmisl1 l Z a0 hw hst [] oa h104 n0 Xo104 F106 F107) X104 hx hZ hown e104 F106 (own_i hw 84 rfl) (own_i hw 85 rfl) (notFace_of_selects (args := #[]) (mvT hZ (own_i hw 87 rfl))) (own_i hw 87 rfl) (own_i hw 86 rfl) (own_i hw 3 rfl) (own_i hw 88 rfl) (by decide) (g := (mkF m 28 #[sR oa, sI 1, sI 3, sI 4, sI 2] [(.ref oa)])) rfl (by rw [hml]; rfl) (argsL := []) (rest := []) (lenOf own_pd4 rfl) rfl rfl (hb hby d10_28) (W := 0) (Nat.le_of_eq rfl) (K := 0) (N := 0) rfl rfl (by decide) (by decide) (by decide) (by decide)
  obtain ⟨hv105, N105q, K105⟩ := hQ105
  subst hv105
  have Xo105 := Xo104.keep K105 all0
  have KK105 := KK104.trans K105 all0
  have N105 := l105 _ N104 N105q
  refine own_to ?_ st105
  refine own_to (V := T105.setTop (mkF m 35 #[sR oa, sI 1, sI 3, sI 4, sI 2] [(.ref oa)])) ?_ fun t k => (by
    refine XS.ifNo X105.here hx rfl (hb hby d10_31) rfl ((if0 _ _).trans (feq ((by decide) : ¬ ((1 : Int32) = (0 : Int32)))).1) ?_
    refine XS.aloadN X105.here hx rfl (hb hby d10_34) rfl rfl ?_
    exact k)
  have F108 := ((sV101.keep K104 List.not_mem_nil).keep K105 List.not_mem_nil)
  obtain ⟨T109, X109, e109, st109⟩ := getF X105 hx hZ hown (host := "") (Or.inl (own_i hw 28 rfl)) Via.refl e105 F108 (g := (mkF m 35 #[sR oa, sI 1, sI 3, sI 4, sI 2] [(.ref oa)])) rfl rfl (hb hby d10_35)
  refine own_to ?_ st109
  refine own_to (V := T109.setTop (mkF m 41 #[sR oa, sI 1, sI 3, sI 4, sI 2] [(.int 2), (.int 1), (.ref ua)])) ?_ fun t k => (by
    refine XS.iloadN X109.here hx rfl (hb hby d10_38) rfl ?_
    refine XS.iload X109.here hx rfl (hb hby d10_39) rfl ?_
    exact k)
  have F111 := ((sK101.keep K104 List.not_mem_nil).keep K105 List.not_mem_nil)
  obtain ⟨_, T110, h110, L110, Lc110, X110, e110, hQ110, l110, st110⟩ := own_cS (own_rmnst4_1_2 l Z a0 hw hst [] ua sk101 c0 c1 c2 c3 h105 n0 Xo105 l0 l1 l2 l3 F111) X109 hx hZ hown e109 (own_i hw 89 rfl) (own_i hw 90 rfl) (own_i hw 91 rfl) (own_i hw 92 rfl) (by decide) (g := (mkF m 41 #[sR oa, sI 1, sI 3, sI 4, sI 2] [(.int 2), (.int 1), (.ref ua)])) rfl (by rw [hml]; rfl) (argsL := [(.ref ua), (.int 1), (.int 2)]) (rest := []) (lenOf own_pd5 rfl) rfl rfl (hb hby d10_41) (W := 0) (Nat.le_of_eq rfl) (K := 2) (N := 6) rfl rfl (by decide) (by decide) (by decide) (by decide)
  obtain ⟨oo110, ou110, hv110, N110q, K110, g110_0⟩ := hQ110
  subst hv110
  have Xo110 := Xo105.keep K110 all0
  have KK110 := KK105.trans K110 all0
  have N110 := l110 _ N105 N110q
  refine own_to ?_ st110
  refine own_to (V := T110.setTop (mkF m 57 #[sR oa, sI 1, sI 3, sI 4, sI 2] [(.ref oo110)])) ?_ fun t k => (by
    refine XS.goto X110.here hx rfl (pc0 := 44) (pc' := 57) rfl (hb hby d10_44) (by decide) (by decide) ?_
    exact k)
  exact own_retR X110 hx hret (by decide) rfl hlk (hb hby d10_57) (by rw [e110]; exact (⟨oo110, ou110, rfl, N110, KK110, g110_0⟩)) (by decide) (by decide)
def own_Qtos13 (Z : State) (ow oa ua : Addr) (c0 c1 c2 c3 : Int32) (h0 : Heap) (n0 : Nat) (v : Option Value) (h : Heap) (L : List Loc) : Prop := (∃ (oo : Addr) (ou : Addr), v = some (.ref oo) ∧ Fr n0 L ∧ Keep h0 h [] ∧ (own_Str Z h oo ou ([c1, c2] : List Int32)))
theorem own_ef_tos13 (m : MethodId) (ow : Addr)  : entryFrame m #[(.ref ow)] 1 = mkF m 0 #[sR ow] [] := by first | (simp [entryFrame, mkF, argsToLocals, Value.category]; done) | rfl
theorem own_rmtos13 (l : Launch) (Z : State) (a0 : Array Value) (hw : ∀ d ∈ tables_1, d.before a0 Z = true) (hst : own_St Z) (ws : List Jvm.Cond) (ow oa ua : Addr) (c0 c1 c2 c3 : Int32) (h0 : Heap) (n0 : Nat) (X00 : Old Z n0 h0) (l0 : ¬ c0 < 0 ∧ ¬ (255 : Int32) < c0) (l1 : ¬ c1 < 0 ∧ ¬ (255 : Int32) < c1) (l2 : ¬ c2 < 0 ∧ ¬ (255 : Int32) < c2) (l3 : ¬ c3 < 0 ∧ ¬ (255 : Int32) < c3) (hE : Exa Z h0 ow nm1) (f1 : Fld Z h0 ow nm1 "text" nm2 (.ref oa)) (f2 : Fld Z h0 ow nm1 "start" "I" (.int 1)) (f3 : Fld Z h0 ow nm1 "end" "I" (.int 3)) (hS : own_Str Z h0 oa ua ([c0, c1, c2, c3] : List Int32)) :
    own_MF l own_mn12 prog_77_method_5_code 1 (Option.some (Jvm.ClassFile.FieldType.object "java/lang/String")) ws (own_R 5 2 6 80) #[(.ref ow)] Z h0 (own_Qtos13 Z ow oa ua c0 c1 c2 c3 h0 n0) := by
  refine own_body (plainFor_of_name own_pn4) (fun m => own_ef_tos13 m ow ) ?_
  intro p e s m below meth c s₁ hx hby hret hlk hml hZ hown hnm hh X0 e0
  have N0 := Fr.nil n0
  have KK0 : Keep h0 h0 [] := Keep.refl h0 _
  obtain ⟨⟨G1, O2, P5⟩, ⟨G3, O4, rG3⟩, -⟩ := id hst
  refine own_to (V := s₁.setTop (mkF m 1 #[sR ow] [(.ref ow)])) ?_ fun t k => (by
    refine XS.aloadN X0.here hx rfl (hb hby d11_0) rfl rfl ?_
    exact k)
  obtain ⟨T101, X101, e101, st101⟩ := getF X0 hx hZ hown (host := "") (Or.inl (own_i hw 50 rfl)) Via.refl e0 f1 (g := (mkF m 1 #[sR ow] [(.ref ow)])) rfl rfl (hb hby d11_1)
  refine own_to ?_ st101
  refine own_to (V := T101.setTop (mkF m 5 #[sR ow] [(.ref ow), (.ref oa)])) ?_ fun t k => (by
    refine XS.aloadN X101.here hx rfl (hb hby d11_4) rfl rfl ?_
    exact k)
  obtain ⟨T102, X102, e102, st102⟩ := getF X101 hx hZ hown (host := "") (Or.inl (own_i hw 52 rfl)) Via.refl e101 f2 (g := (mkF m 5 #[sR ow] [(.ref ow), (.ref oa)])) rfl rfl (hb hby d11_5)
  refine own_to ?_ st102
  refine own_to (V := T102.setTop (mkF m 9 #[sR ow] [(.ref ow), (.int 1), (.ref oa)])) ?_ fun t k => (by
    refine XS.aloadN X102.here hx rfl (hb hby d11_8) rfl rfl ?_
    exact k)
  obtain ⟨T103, X103, e103, st103⟩ := getF X102 hx hZ hown (host := "") (Or.inl (own_i hw 54 rfl)) Via.refl e102 f3 (g := (mkF m 9 #[sR ow] [(.ref ow), (.int 1), (.ref oa)])) rfl rfl (hb hby d11_9)
  refine own_to ?_ st103
  obtain ⟨_, T104, h104, L104, Lc104, X104, e104, hQ104, l104, st104⟩ := own_cV (own_rmsub4_1_3 l Z a0 hw hst [] oa ua c0 c1 c2 c3 h0 n0 X00 l0 l1 l2 l3 hS) X103 hx hZ hown e103 hS.1 (own_i hw 61 rfl) (own_i hw 62 rfl) (notFace_of_selects (args := #[]) (mvT hZ (own_i hw 64 rfl))) (own_i hw 64 rfl) (own_i hw 63 rfl) (own_i hw 3 rfl) (own_i hw 65 rfl) (by decide) (g := (mkF m 12 #[sR ow] [(.int 3), (.int 1), (.ref oa)])) rfl (by rw [hml]; rfl) (argsL := [(.int 1), (.int 3)]) (rest := []) (lenOf own_pd6 rfl) rfl rfl (hb hby d11_12) (W := 0) (Nat.le_of_eq rfl) (K := 2) (N := 6) rfl rfl (by decide) (by decide) (by decide) (by decide)
  obtain ⟨oo104, ou104, hv104, N104q, K104, g104_0⟩ := hQ104
  subst hv104
  have Xo104 := X00.keep K104 all0
  have KK104 := KK0.trans K104 all0
  have N104 := l104 _ N0 N104q
  refine own_to ?_ st104
  exact own_retR X104 hx hret (by decide) rfl hlk (hb hby d11_15) (by rw [e104]; exact (⟨oo104, ou104, rfl, N104, KK104, g104_0⟩)) (by decide) (by decide)
def own_Qsm210 (Z : State) (oa ua ob : Addr) (kb : ClassId) (c0 c1 c2 c3 : Int32) (h0 : Heap) (n0 : Nat) (v : Option Value) (h : Heap) (L : List Loc) : Prop := (v = some (.int 1) ∧ Fr n0 L ∧ Keep h0 h [])
theorem own_ef_sm210 (m : MethodId) (oa : Addr) (ob : Addr)  : entryFrame m #[(.ref oa), (.int 0), (.ref ob), (.int 1), (.int 2)] 5 = mkF m 0 #[sR oa, sI 0, sR ob, sI 1, sI 2] [] := by first | (simp [entryFrame, mkF, argsToLocals, Value.category]; done) | rfl
theorem own_rmsm210 (l : Launch) (Z : State) (a0 : Array Value) (hw : ∀ d ∈ tables_1, d.before a0 Z = true) (hst : own_St Z) (ws : List Jvm.Cond) (oa ua ob : Addr) (kb : ClassId) (c0 c1 c2 c3 : Int32) (h0 : Heap) (n0 : Nat) (X00 : Old Z n0 h0) (l0 : ¬ c0 < 0 ∧ ¬ (255 : Int32) < c0) (l1 : ¬ c1 < 0 ∧ ¬ (255 : Int32) < c1) (l2 : ¬ c2 < 0 ∧ ¬ (255 : Int32) < c2) (l3 : ¬ c3 < 0 ∧ ¬ (255 : Int32) < c3) (hS : own_Str Z h0 oa ua ([c1, c2] : List Int32)) (hA : Arv Z h0 ob kb .char (4 : Int32) [(.int c0), (.int c1), (.int c2), (.int c3)] (.int (0 : Int32))) :
    own_MF l own_mn15 method_2_code 5 (Option.some Jvm.ClassFile.FieldType.boolean) ws (own_R 4 0 0 53) #[(.ref oa), (.int 0), (.ref ob), (.int 1), (.int 2)] Z h0 (own_Qsm210 Z oa ua ob kb c0 c1 c2 c3 h0 n0) := by
  refine own_body (plainFor_of_name own_pn6) (fun m => own_ef_sm210 m oa ob ) ?_
  intro p e s m below meth c s₁ hx hby hret hlk hml hZ hown hnm hh X0 e0
  have N0 := Fr.nil n0
  have KK0 : Keep h0 h0 [] := Keep.refl h0 _
  obtain ⟨⟨G1, O2, P5⟩, ⟨G3, O4, rG3⟩, -⟩ := id hst
  refine own_to (V := s₁.setTop (mkF m 10 #[sR oa, sI 0, sR ob, sI 1, sI 2] [(.int 0), (.ref oa)])) ?_ fun t k => (by
    refine XS.iloadN X0.here hx rfl (hb hby d14_0) rfl ?_
    refine XS.iload X0.here hx rfl (hb hby d14_1) rfl ?_
    refine XS.icmpYes X0.here hx rfl (pc0 := 3) (pc' := 8) rfl (hb hby d14_3) rfl (tlt ((by decide) : (0 : Int32) < (2 : Int32))).1 (by decide) (by decide) ?_
    refine XS.aloadN X0.here hx rfl (hb hby d14_8) rfl rfl ?_
    refine XS.iloadN X0.here hx rfl (hb hby d14_9) rfl ?_
    exact k)
  obtain ⟨sN102, sk102, sv102, sE102, sV102, sC102, sK102, sc102, sb102, sl102⟩ := own_Str.latin hS (own_lat2 (own_allS l1 (own_allS l2 own_all0)))
  obtain ⟨cq101, kq101, q101a, q101b, q101c⟩ := isOf hZ e0 hS.1
  obtain ⟨_, _, ⟨T101, L101, k101, n101⟩, -, X101, ⟨Lc101, hQ101, l101, y101, z101⟩, st101⟩ := X0.virtualBack hx (y := own_mn16) (z := own_mn16) hown (mvT hZ (own_i hw 117 rfl)) (mvT hZ (own_i hw 118 rfl)) (notFace_of_selects (args := #[]) (mvT hZ (own_i hw 120 rfl))) (mvT hZ (own_i hw 120 rfl)) (mvT hZ (own_i hw 119 rfl)) (by decide) (StrChars.Road.chN (W := 0) hZ (own_hch hw) (kI := 4) (own_i hw 2 rfl) sE102 sV102 sC102 sK102 sc102 sb102 (O2.ext X00.2) P5 (O4.ext X00.2) rG3 sl102 (i := 0) (Nat.le_of_ble_eq_true rfl) (j := (0 : Int32)) rfl (by decide) (by decide)) q101a q101c (g := (mkF m 10 #[sR oa, sI 0, sR ob, sI 1, sI 2] [(.int 0), (.ref oa)])) rfl (by rw [hml]; rfl) (Steps.refl _) (argsL := [(.int 0)]) (rest := []) (lenOf own_pd11 rfl) rfl (by show 2 * 0 + _ ≤ _; exact Nat.le_of_eq rfl) (hb hby d14_10) (fun _ _ => ⟨rfl, e0, (by decide : 0 + 0 ≤ _), (by decide : 0 + 0 ≤ _)⟩)
  dsimp only [own_R, Pt.U, Pt.locs, Pt.cells, Pt.slots] at X101 l101 y101 z101 st101 hQ101
  subst y101 z101
  obtain ⟨hv101, hL101, hh101⟩ := hQ101
  subst hL101
  have N101 : Fr n0 L101 := by rw [l101]; exact Fr.app N0 (Fr.nil n0)
  subst hv101
  refine own_to ?_ (fun t k => st101.trans k)
  refine own_to (V := T101.setTop (mkF m 17 #[sR oa, sI 0, sR ob, sI 1, sI 2] [(.int 1), (.ref ob), (.int c1)])) ?_ fun t k => (by
    refine XS.aloadN X101.here hx rfl (hb hby d14_13) rfl rfl ?_
    refine XS.iloadN X101.here hx rfl (hb hby d14_14) rfl ?_
    refine XS.iloadN X101.here hx rfl (hb hby d14_15) rfl ?_
    refine XS.iadd X101.here hx rfl (hb hby d14_16) rfl ?_
    exact k)
  obtain ⟨cl103, Ar103, q103, S103, M103, H103, G103⟩ := id hA
  have hin103 : ¬ ((1 : Int32) < 0 ∨ cl103.slots.size ≤ ((1 : Int32)).toNatClampNeg) := inb_of S103 ⟨by decide, by decide⟩
  refine own_to (V := T101.setTop (mkF m 18 #[sR oa, sI 0, sR ob, sI 1, sI 2] [(.int c1), (.int c1)])) ?_ (fun t k => X101.caload hx (j := (1 : Int32)) (v := (.int c1)) (by rw [hh101]; exact Ar103.1) (State.isArrayOf_alike hZ.alike Ar103.2.1) Ar103.2.2 hin103 (Has.at H103 hin103 rfl) (g := (mkF m 17 #[sR oa, sI 0, sR ob, sI 1, sI 2] [(.int 1), (.ref ob), (.int c1)])) rfl rfl (hb hby d14_17) t k)
  refine own_to (V := T101.setTop (mkF m 26 #[sR oa, sI 0, sR ob, sI 1, sI 2] [(.int 1)])) ?_ fun t k => (by
    refine XS.icmpNo X101.here hx rfl (hb hby d14_18) rfl (teq (rfl : c1 = c1)).2 ?_
    refine XS.iconst X101.here hx rfl (hb hby d14_21) ?_
    refine XS.goto X101.here hx rfl (pc0 := 22) (pc' := 26) rfl (hb hby d14_22) (by decide) (by decide) ?_
    exact k)
  exact own_retN X101 hx (t := .boolean) (w := (1 : Int32)) hret (by decide) rfl hlk (hb hby d14_26) (by rw [hh101]; exact (⟨rfl, N101, KK0⟩)) (by decide) (by decide)
def own_Qsm211 (Z : State) (oa ua ob : Addr) (kb : ClassId) (c0 c1 c2 c3 : Int32) (h0 : Heap) (n0 : Nat) (v : Option Value) (h : Heap) (L : List Loc) : Prop := (v = some (.int 1) ∧ Fr n0 L ∧ Keep h0 h [])
theorem own_ef_sm211 (m : MethodId) (oa : Addr) (ob : Addr)  : entryFrame m #[(.ref oa), (.int 1), (.ref ob), (.int 1), (.int 2)] 5 = mkF m 0 #[sR oa, sI 1, sR ob, sI 1, sI 2] [] := by first | (simp [entryFrame, mkF, argsToLocals, Value.category]; done) | rfl
theorem own_rmsm211 (l : Launch) (Z : State) (a0 : Array Value) (hw : ∀ d ∈ tables_1, d.before a0 Z = true) (hst : own_St Z) (ws : List Jvm.Cond) (oa ua ob : Addr) (kb : ClassId) (c0 c1 c2 c3 : Int32) (h0 : Heap) (n0 : Nat) (X00 : Old Z n0 h0) (l0 : ¬ c0 < 0 ∧ ¬ (255 : Int32) < c0) (l1 : ¬ c1 < 0 ∧ ¬ (255 : Int32) < c1) (l2 : ¬ c2 < 0 ∧ ¬ (255 : Int32) < c2) (l3 : ¬ c3 < 0 ∧ ¬ (255 : Int32) < c3) (hS : own_Str Z h0 oa ua ([c1, c2] : List Int32)) (hA : Arv Z h0 ob kb .char (4 : Int32) [(.int c0), (.int c1), (.int c2), (.int c3)] (.int (0 : Int32))) :
    own_MF l own_mn15 method_2_code 5 (Option.some Jvm.ClassFile.FieldType.boolean) ws (own_R 4 0 0 53) #[(.ref oa), (.int 1), (.ref ob), (.int 1), (.int 2)] Z h0 (own_Qsm211 Z oa ua ob kb c0 c1 c2 c3 h0 n0) := by
  refine own_body (plainFor_of_name own_pn6) (fun m => own_ef_sm211 m oa ob ) ?_
  intro p e s m below meth c s₁ hx hby hret hlk hml hZ hown hnm hh X0 e0
  have N0 := Fr.nil n0
  have KK0 : Keep h0 h0 [] := Keep.refl h0 _
  obtain ⟨⟨G1, O2, P5⟩, ⟨G3, O4, rG3⟩, -⟩ := id hst
  refine own_to (V := s₁.setTop (mkF m 10 #[sR oa, sI 1, sR ob, sI 1, sI 2] [(.int 1), (.ref oa)])) ?_ fun t k => (by
    refine XS.iloadN X0.here hx rfl (hb hby d14_0) rfl ?_
    refine XS.iload X0.here hx rfl (hb hby d14_1) rfl ?_
    refine XS.icmpYes X0.here hx rfl (pc0 := 3) (pc' := 8) rfl (hb hby d14_3) rfl (tlt ((by decide) : (1 : Int32) < (2 : Int32))).1 (by decide) (by decide) ?_
    refine XS.aloadN X0.here hx rfl (hb hby d14_8) rfl rfl ?_
    refine XS.iloadN X0.here hx rfl (hb hby d14_9) rfl ?_
    exact k)
  obtain ⟨sN102, sk102, sv102, sE102, sV102, sC102, sK102, sc102, sb102, sl102⟩ := own_Str.latin hS (own_lat2 (own_allS l1 (own_allS l2 own_all0)))
  obtain ⟨cq101, kq101, q101a, q101b, q101c⟩ := isOf hZ e0 hS.1
  obtain ⟨_, _, ⟨T101, L101, k101, n101⟩, -, X101, ⟨Lc101, hQ101, l101, y101, z101⟩, st101⟩ := X0.virtualBack hx (y := own_mn16) (z := own_mn16) hown (mvT hZ (own_i hw 117 rfl)) (mvT hZ (own_i hw 118 rfl)) (notFace_of_selects (args := #[]) (mvT hZ (own_i hw 120 rfl))) (mvT hZ (own_i hw 120 rfl)) (mvT hZ (own_i hw 119 rfl)) (by decide) (StrChars.Road.chN (W := 0) hZ (own_hch hw) (kI := 4) (own_i hw 2 rfl) sE102 sV102 sC102 sK102 sc102 sb102 (O2.ext X00.2) P5 (O4.ext X00.2) rG3 sl102 (i := 1) (Nat.le_of_ble_eq_true rfl) (j := (1 : Int32)) rfl (by decide) (by decide)) q101a q101c (g := (mkF m 10 #[sR oa, sI 1, sR ob, sI 1, sI 2] [(.int 1), (.ref oa)])) rfl (by rw [hml]; rfl) (Steps.refl _) (argsL := [(.int 1)]) (rest := []) (lenOf own_pd11 rfl) rfl (by show 2 * 0 + _ ≤ _; exact Nat.le_of_eq rfl) (hb hby d14_10) (fun _ _ => ⟨rfl, e0, (by decide : 0 + 0 ≤ _), (by decide : 0 + 0 ≤ _)⟩)
  dsimp only [own_R, Pt.U, Pt.locs, Pt.cells, Pt.slots] at X101 l101 y101 z101 st101 hQ101
  subst y101 z101
  obtain ⟨hv101, hL101, hh101⟩ := hQ101
  subst hL101
  have N101 : Fr n0 L101 := by rw [l101]; exact Fr.app N0 (Fr.nil n0)
  subst hv101
  refine own_to ?_ (fun t k => st101.trans k)
  refine own_to (V := T101.setTop (mkF m 17 #[sR oa, sI 1, sR ob, sI 1, sI 2] [(.int 2), (.ref ob), (.int c2)])) ?_ fun t k => (by
    refine XS.aloadN X101.here hx rfl (hb hby d14_13) rfl rfl ?_
    refine XS.iloadN X101.here hx rfl (hb hby d14_14) rfl ?_
    refine XS.iloadN X101.here hx rfl (hb hby d14_15) rfl ?_
    refine XS.iadd X101.here hx rfl (hb hby d14_16) rfl ?_
    exact k)
  obtain ⟨cl103, Ar103, q103, S103, M103, H103, G103⟩ := id hA
  have hin103 : ¬ ((2 : Int32) < 0 ∨ cl103.slots.size ≤ ((2 : Int32)).toNatClampNeg) := inb_of S103 ⟨by decide, by decide⟩
  refine own_to (V := T101.setTop (mkF m 18 #[sR oa, sI 1, sR ob, sI 1, sI 2] [(.int c2), (.int c2)])) ?_ (fun t k => X101.caload hx (j := (2 : Int32)) (v := (.int c2)) (by rw [hh101]; exact Ar103.1) (State.isArrayOf_alike hZ.alike Ar103.2.1) Ar103.2.2 hin103 (Has.at H103 hin103 rfl) (g := (mkF m 17 #[sR oa, sI 1, sR ob, sI 1, sI 2] [(.int 2), (.ref ob), (.int c2)])) rfl rfl (hb hby d14_17) t k)
  refine own_to (V := T101.setTop (mkF m 26 #[sR oa, sI 1, sR ob, sI 1, sI 2] [(.int 1)])) ?_ fun t k => (by
    refine XS.icmpNo X101.here hx rfl (hb hby d14_18) rfl (teq (rfl : c2 = c2)).2 ?_
    refine XS.iconst X101.here hx rfl (hb hby d14_21) ?_
    refine XS.goto X101.here hx rfl (pc0 := 22) (pc' := 26) rfl (hb hby d14_22) (by decide) (by decide) ?_
    exact k)
  exact own_retN X101 hx (t := .boolean) (w := (1 : Int32)) hret (by decide) rfl hlk (hb hby d14_26) (by rw [hh101]; exact (⟨rfl, N101, KK0⟩)) (by decide) (by decide)
def own_Qcrb4_1_4 (Z : State) (ob : Addr) (kb : ClassId) (d0 d1 d2 d3 : Int32) (h0 : Heap) (n0 : Nat) (v : Option Value) (h : Heap) (L : List Loc) : Prop := (∃ (oo : Addr) (ko : ClassId), v = some (.ref oo) ∧ Fr n0 L ∧ Keep h0 h [] ∧ (Arv Z h oo ko .byte (3 : Int32) [(.int d1), (.int d2), (.int d3)] (.int (0 : Int32))) ∧ (h0.size ≤ oo))
theorem own_ef_crb4_1_4 (m : MethodId) (ob : Addr)  : entryFrame m #[(.ref ob), (.int 1), (.int 4)] 5 = mkF m 0 #[sR ob, sI 1, sI 4, .unset, .unset] [] := by first | (simp [entryFrame, mkF, argsToLocals, Value.category]; done) | rfl
theorem own_rmcrb4_1_4 (l : Launch) (Z : State) (a0 : Array Value) (hw : ∀ d ∈ tables_1, d.before a0 Z = true) (hst : own_St Z) (ws : List Jvm.Cond) (ob : Addr) (kb : ClassId) (d0 d1 d2 d3 : Int32) (h0 : Heap) (n0 : Nat) (X00 : Old Z n0 h0) (hA : Arv Z h0 ob kb .byte (4 : Int32) [(.int d0), (.int d1), (.int d2), (.int d3)] (.int (0 : Int32))) :
    own_MF l own_mn13 jdk_65_method_133_code 5 (Option.some (Jvm.ClassFile.FieldType.array Jvm.ClassFile.FieldType.byte)) ws (own_R 1 1 3 18) #[(.ref ob), (.int 1), (.int 4)] Z h0 (own_Qcrb4_1_4 Z ob kb d0 d1 d2 d3 h0 n0) := by
  refine own_body (plainFor_of_name own_pn0) (fun m => own_ef_crb4_1_4 m ob ) ?_
  intro p e s m below meth c s₁ hx hby hret hlk hml hZ hown hnm hh X0 e0
  have N0 := Fr.nil n0
  have KK0 : Keep h0 h0 [] := Keep.refl h0 _
  obtain ⟨⟨G1, O2, P5⟩, ⟨G3, O4, rG3⟩, -⟩ := id hst
  refine own_to (V := s₁.setTop (mkF m 2 #[sR ob, sI 1, sI 4, .unset, .unset] [(.int 4), (.int 1)])) ?_ fun t k => (by
    refine XS.iloadN X0.here hx rfl (hb hby d12_0) rfl ?_
    refine XS.iloadN X0.here hx rfl (hb hby d12_1) rfl ?_
    exact k)
  obtain ⟨_, T101, h101, L101, Lc101, X101, e101, hQ101, l101, st101⟩ := own_cS (own_rmckl l Z a0 hw hst [] (1 : Int32) (4 : Int32) h0 n0 X00 (by first | assumption | decide | omega | (simp; done) | rfl)) X0 hx hZ hown e0 (own_i hw 101 rfl) (own_i hw 102 rfl) (own_i hw 96 rfl) (own_i hw 103 rfl) (by decide) (g := (mkF m 2 #[sR ob, sI 1, sI 4, .unset, .unset] [(.int 4), (.int 1)])) rfl (by rw [hml]; rfl) (argsL := [(.int 1), (.int 4)]) (rest := []) (lenOf own_pd7 rfl) rfl rfl (hb hby d12_2) (W := 0) (Nat.le_of_eq rfl) (K := 0) (N := 0) rfl rfl (by decide) (by decide) (by decide) (by decide)
  obtain ⟨hv101, N101q, K101⟩ := hQ101
  subst hv101
  have Xo101 := X00.keep K101 all0
  have KK101 := KK0.trans K101 all0
  have N101 := l101 _ N0 N101q
  refine own_to ?_ st101
  refine own_to (V := T101.setTop (mkF m 10 #[sR ob, sI 1, sI 4, sI 3, .unset] [(.int 3)])) ?_ fun t k => (by
    refine XS.iloadN X101.here hx rfl (hb hby d12_5) rfl ?_
    refine XS.iloadN X101.here hx rfl (hb hby d12_6) rfl ?_
    refine XS.isub X101.here hx rfl (hb hby d12_7) rfl ?_
    refine XS.istoreN X101.here hx rfl (hb hby d12_8) rfl (l' := #[sR ob, sI 1, sI 4, sI 3, .unset]) rfl ?_
    refine XS.iloadN X101.here hx rfl (hb hby d12_9) rfl ?_
    exact k)
  obtain ⟨T102, h102, k102, X102, e102, E102, A102, st102⟩ := newP X101 hx hZ (own_i hw 19 rfl) e101 (g := (mkF m 10 #[sR ob, sI 1, sI 4, sI 3, .unset] [(.int 3)])) rfl (hb hby d12_10) rfl (by decide) (cap := 3) (by decide) (by decide) (by decide) (by decide)
  obtain ⟨b102, g102⟩ : ∃ z, z = h101.size := ⟨_, rfl⟩
  rw [← g102] at A102 st102
  have Xo102 := Xo101.ext E102
  have KK102 := KK101.ext E102
  have ge_b102 := Nat.le_trans (own_ole Xo101) (Nat.le_of_eq g102.symm)
  have sz_b102 := Nat.le_trans KK101.1 (Nat.le_of_eq g102.symm)
  have V102 : Arv Z h102 b102 k102 .byte (3 : Int32) [(.int 0), (.int 0), (.int 0)] (.int (0 : Int32)) := (Arv.new A102 (by decide)).pad (pad_rep [] (.int (0 : Int32)) 3)
  refine own_to ?_ st102
  refine own_to (V := T102.setTop (mkF m 20 #[sR ob, sI 1, sI 4, sI 3, sR b102] [(.ref ob), (.int 0), (.ref b102), (.int 1), (.ref ob)])) ?_ fun t k => (by
    refine XS.astore X102.here hx rfl (hb hby d12_12) rfl rfl (l' := #[sR ob, sI 1, sI 4, sI 3, sR b102]) rfl ?_
    refine XS.aloadN X102.here hx rfl (hb hby d12_14) rfl rfl ?_
    refine XS.iloadN X102.here hx rfl (hb hby d12_15) rfl ?_
    refine XS.aload X102.here hx rfl (hb hby d12_16) rfl rfl ?_
    refine XS.iconst X102.here hx rfl (hb hby d12_18) ?_
    refine XS.aloadN X102.here hx rfl (hb hby d12_19) rfl rfl ?_
    exact k)
  have F103 := ((hA.keep K101 List.not_mem_nil).ext E102)
  obtain ⟨cl104, Ar104, q104, S104, M104, H104, G104⟩ := id F103
  refine own_to (V := T102.setTop (mkF m 21 #[sR ob, sI 1, sI 4, sI 3, sR b102] [(.int 4), (.int 0), (.ref b102), (.int 1), (.ref ob)])) ?_ (fun t k => X102.arraylength hx (by rw [e102]; exact Ar104.1) (State.isArrayOf_alike hZ.alike Ar104.2.1) (g := (mkF m 20 #[sR ob, sI 1, sI 4, sI 3, sR b102] [(.ref ob), (.int 0), (.ref b102), (.int 1), (.ref ob)])) rfl rfl (hb hby d12_20) t (by rw [len_of S104 M104]; exact k))
  refine own_to (V := T102.setTop (mkF m 24 #[sR ob, sI 1, sI 4, sI 3, sR b102] [(.int 3), (.int 3), (.int 0), (.ref b102), (.int 1), (.ref ob)])) ?_ fun t k => (by
    refine XS.iloadN X102.here hx rfl (hb hby d12_21) rfl ?_
    refine XS.isub X102.here hx rfl (hb hby d12_22) rfl ?_
    refine XS.iloadN X102.here hx rfl (hb hby d12_23) rfl ?_
    exact k)
  obtain ⟨_, T105, h105, L105, Lc105, X105, e105, hQ105, l105, st105⟩ := own_cS (own_rmmamin l Z a0 hw hst [] (3 : Int32) (3 : Int32) h102 n0 Xo102 ) X102 hx hZ hown e102 (own_i hw 104 rfl) (own_i hw 32 rfl) (own_i hw 33 rfl) (own_i hw 34 rfl) (by decide) (g := (mkF m 24 #[sR ob, sI 1, sI 4, sI 3, sR b102] [(.int 3), (.int 3), (.int 0), (.ref b102), (.int 1), (.ref ob)])) rfl (by rw [hml]; rfl) (argsL := [(.int 3), (.int 3)]) (rest := [(.int 0), (.ref b102), (.int 1), (.ref ob)]) (lenOf own_pd8 rfl) rfl rfl (hb hby d12_24) (W := 4) (Nat.le_of_eq rfl) (K := 1) (N := 3) rfl rfl (by decide) (by decide) (by decide) (by decide)
  rcases hQ105 with ⟨hv105, N105q, K105, g105_0⟩ | ⟨hv105, N105q, K105, g105_0⟩
  ·skip
   subst hv105
   have Xo105 := Xo102.keep K105 all0
   have KK105 := KK102.trans K105 all0
   have N105 := l105 _ N101 N105q
   refine own_to ?_ st105
   have F107 := (F103.keep K105 List.not_mem_nil)
   have F108 := (V102.keep K105 List.not_mem_nil)
   obtain ⟨T106, h106, L106, X106, e106, N106, K106, V106', st106⟩ := cpA X105 hx hZ hown (own_i hw 105 rfl) (own_i hw 108 rfl) (own_i hw 106 rfl) (own_i hw 107 rfl) e105 (sp := (1 : Int32)) (dp := (0 : Int32)) (nn := (3 : Int32)) (us := [(.int d1), (.int d2), (.int d3)]) F107 F108 (Or.inl ⟨rfl, rfl⟩) (by decide) (by decide) (by decide) (by decide) (by decide) rfl (Nat.le_of_ble_eq_true rfl) N105 ge_b102 (g := (mkF m 27 #[sR ob, sI 1, sI 4, sI 3, sR b102] [(.int 3), (.int 0), (.ref b102), (.int 1), (.ref ob)])) rfl (by rw [hml]; rfl) (rest := []) rfl (hb hby d12_27) (by decide) (W := 0) (by show 2 * 0 + _ ≤ _; exact Nat.le_of_eq rfl) (by decide)
   have Xo106 := Xo105.keep K106 (allS ge_b102 all0)
   have KK106 := KK105.trans K106 (allS (Or.inr sz_b102) all0)
   have V106 : Arv Z h106 b102 k102 .byte (3 : Int32) [(.int d1), (.int d2), (.int d3)] (.int (0 : Int32)) := V106'
   refine own_to ?_ st106
   refine own_to (V := T106.setTop (mkF m 32 #[sR ob, sI 1, sI 4, sI 3, sR b102] [(.ref b102)])) ?_ fun t k => (by
     refine XS.aload X106.here hx rfl (hb hby d12_30) rfl rfl ?_
     exact k)
   exact own_retR X106 hx hret (by decide) rfl hlk (hb hby d12_32) (by rw [e106]; exact (⟨b102, k102, rfl, N106, KK106, V106, sz_b102⟩)) (by decide) (by decide)
  ·skip
   subst hv105
   have Xo105 := Xo102.keep K105 all0
   have KK105 := KK102.trans K105 all0
   have N105 := l105 _ N101 N105q
   exact absurd g105_0 (by decide)
def own_Qcor4_1_4 (Z : State) (ob : Addr) (kb : ClassId) (d0 d1 d2 d3 : Int32) (h0 : Heap) (n0 : Nat) (v : Option Value) (h : Heap) (L : List Loc) : Prop := (∃ (oo : Addr) (ko : ClassId), v = some (.ref oo) ∧ Fr n0 L ∧ Keep h0 h [] ∧ (Arv Z h oo ko .byte (3 : Int32) [(.int d1), (.int d2), (.int d3)] (.int (0 : Int32))) ∧ (h0.size ≤ oo))
theorem own_ef_cor4_1_4 (m : MethodId) (ob : Addr)  : entryFrame m #[(.ref ob), (.int 1), (.int 4)] 3 = mkF m 0 #[sR ob, sI 1, sI 4] [] := by first | (simp [entryFrame, mkF, argsToLocals, Value.category]; done) | rfl
theorem own_rmcor4_1_4 (l : Launch) (Z : State) (a0 : Array Value) (hw : ∀ d ∈ tables_1, d.before a0 Z = true) (hst : own_St Z) (ws : List Jvm.Cond) (ob : Addr) (kb : ClassId) (d0 d1 d2 d3 : Int32) (h0 : Heap) (n0 : Nat) (X00 : Old Z n0 h0) (hA : Arv Z h0 ob kb .byte (4 : Int32) [(.int d0), (.int d1), (.int d2), (.int d3)] (.int (0 : Int32))) :
    own_MF l own_mn14 jdk_65_method_132_code 3 (Option.some (Jvm.ClassFile.FieldType.array Jvm.ClassFile.FieldType.byte)) ws (own_R 2 1 3 34) #[(.ref ob), (.int 1), (.int 4)] Z h0 (own_Qcor4_1_4 Z ob kb d0 d1 d2 d3 h0 n0) := by
  refine own_body (plainFor_of_name own_pn0) (fun m => own_ef_cor4_1_4 m ob ) ?_
  intro p e s m below meth c s₁ hx hby hret hlk hml hZ hown hnm hh X0 e0
  have N0 := Fr.nil n0
  have KK0 : Keep h0 h0 [] := Keep.refl h0 _
  obtain ⟨⟨G1, O2, P5⟩, ⟨G3, O4, rG3⟩, -⟩ := id hst
  refine own_to (V := s₁.setTop (mkF m 13 #[sR ob, sI 1, sI 4] [(.int 4), (.int 1), (.ref ob)])) ?_ fun t k => (by
    refine XS.iloadN X0.here hx rfl (hb hby d13_0) rfl ?_
    refine XS.ifYes X0.here hx rfl (pc0 := 1) (pc' := 10) rfl (hb hby d13_1) rfl ((if0 _ _).trans (feq ((by decide) : ¬ ((1 : Int32) = (0 : Int32)))).2) (by decide) (by decide) ?_
    refine XS.aloadN X0.here hx rfl (hb hby d13_10) rfl rfl ?_
    refine XS.iloadN X0.here hx rfl (hb hby d13_11) rfl ?_
    refine XS.iloadN X0.here hx rfl (hb hby d13_12) rfl ?_
    exact k)
  obtain ⟨_, T101, h101, L101, Lc101, X101, e101, hQ101, l101, st101⟩ := own_cS (own_rmcrb4_1_4 l Z a0 hw hst [] ob kb d0 d1 d2 d3 h0 n0 X00 hA) X0 hx hZ hown e0 (own_i hw 98 rfl) (own_i hw 99 rfl) (own_i hw 96 rfl) (own_i hw 100 rfl) (by decide) (g := (mkF m 13 #[sR ob, sI 1, sI 4] [(.int 4), (.int 1), (.ref ob)])) rfl (by rw [hml]; rfl) (argsL := [(.ref ob), (.int 1), (.int 4)]) (rest := []) (lenOf own_pd9 rfl) rfl rfl (hb hby d13_13) (W := 0) (Nat.le_of_eq rfl) (K := 1) (N := 3) rfl rfl (by decide) (by decide) (by decide) (by decide)
  obtain ⟨oo101, ko101, hv101, N101q, K101, g101_0, g101_1⟩ := hQ101
  subst hv101
  have Xo101 := X00.keep K101 all0
  have KK101 := KK0.trans K101 all0
  have N101 := l101 _ N0 N101q
  have ge_oo101 := Nat.le_trans (own_ole X00) g101_1
  have sz_oo101 := Nat.le_trans KK0.1 g101_1
  refine own_to ?_ st101
  exact own_retR X101 hx hret (by decide) rfl hlk (hb hby d13_16) (by rw [e101]; exact (⟨oo101, ko101, rfl, N101, KK101, g101_0, sz_oo101⟩)) (by decide) (by decide)
def own_Qnst4_1_3 (Z : State) (ob : Addr) (kb : ClassId) (c0 c1 c2 c3 : Int32) (h0 : Heap) (n0 : Nat) (v : Option Value) (h : Heap) (L : List Loc) : Prop := (∃ (oo : Addr) (ou : Addr), v = some (.ref oo) ∧ Fr n0 L ∧ Keep h0 h [] ∧ (own_Str Z h oo ou ([c1, c2, c3] : List Int32)))
theorem own_ef_nst4_1_3 (m : MethodId) (ob : Addr)  : entryFrame m #[(.ref ob), (.int 1), (.int 3)] 3 = mkF m 0 #[sR ob, sI 1, sI 3] [] := by first | (simp [entryFrame, mkF, argsToLocals, Value.category]; done) | rfl
theorem own_rmnst4_1_3 (l : Launch) (Z : State) (a0 : Array Value) (hw : ∀ d ∈ tables_1, d.before a0 Z = true) (hst : own_St Z) (ws : List Jvm.Cond) (ob : Addr) (kb : ClassId) (c0 c1 c2 c3 : Int32) (h0 : Heap) (n0 : Nat) (X00 : Old Z n0 h0) (l0 : ¬ c0 < 0 ∧ ¬ (255 : Int32) < c0) (l1 : ¬ c1 < 0 ∧ ¬ (255 : Int32) < c1) (l2 : ¬ c2 < 0 ∧ ¬ (255 : Int32) < c2) (l3 : ¬ c3 < 0 ∧ ¬ (255 : Int32) < c3) (hA : Arv Z h0 ob kb .byte (4 : Int32) [(.int (StrChars.lo8 c0)), (.int (StrChars.lo8 c1)), (.int (StrChars.lo8 c2)), (.int (StrChars.lo8 c3))] (.int (0 : Int32))) :
    own_MF l own_mn9 jdk_43_method_47_code 3 (Option.some (Jvm.ClassFile.FieldType.object "java/lang/String")) ws (own_R 3 2 7 50) #[(.ref ob), (.int 1), (.int 3)] Z h0 (own_Qnst4_1_3 Z ob kb c0 c1 c2 c3 h0 n0) := by
  refine own_body (plainFor_of_name own_pn5) (fun m => own_ef_nst4_1_3 m ob ) ?_
  intro p e s m below meth c s₁ hx hby hret hlk hml hZ hown hnm hh X0 e0
  have N0 := Fr.nil n0
  have KK0 : Keep h0 h0 [] := Keep.refl h0 _
  obtain ⟨⟨G1, O2, P5⟩, ⟨G3, O4, rG3⟩, -⟩ := id hst
  refine own_to (V := s₁.setTop (mkF m 7 #[sR ob, sI 1, sI 3] [])) ?_ fun t k => (by
    refine XS.iloadN X0.here hx rfl (hb hby d9_0) rfl ?_
    refine XS.ifYes X0.here hx rfl (pc0 := 1) (pc' := 7) rfl (hb hby d9_1) rfl ((if0 _ _).trans (feq ((by decide) : ¬ ((3 : Int32) = (0 : Int32)))).2) (by decide) (by decide) ?_
    exact k)
  obtain ⟨T101, h101, X101, e101, E101, A101, D101, U101, st101⟩ := newO X0 hx hZ hown (own_i hw 93 rfl) (own_i hw 2 rfl) (own_i hw 3 rfl) e0 (g := (mkF m 7 #[sR ob, sI 1, sI 3] [])) rfl (hb hby d9_7) (by decide) (by decide)
  obtain ⟨b101, g101⟩ : ∃ z, z = h0.size := ⟨_, rfl⟩
  rw [← g101] at A101 D101 U101 st101
  have Xo101 := X00.ext E101
  have KK101 := KK0.ext E101
  have ge_b101 := Nat.le_trans (own_ole X00) (Nat.le_of_eq g101.symm)
  have sz_b101 := Nat.le_trans KK0.1 (Nat.le_of_eq g101.symm)
  have Fi101_27 : Fld Z h101 b101 nm0 "coder" "B" (.int 0) := D101 (Or.inr (own_i hw 27 rfl)) (ty := .byte) (by decide)
  have Fi101_29 : Fld Z h101 b101 nm0 "value" "[B" .null := D101 (Or.inr (own_i hw 29 rfl)) (ty := (.array .byte)) (by decide)
  refine own_to ?_ st101
  refine own_to (V := T101.setTop (mkF m 16 #[sR ob, sI 1, sI 3] [(.int 4), (.int 1), (.ref ob), (.ref b101), (.ref b101)])) ?_ fun t k => (by
    refine XS.dup X101.here hx rfl (hb hby d9_10) rfl rfl ?_
    refine XS.aloadN X101.here hx rfl (hb hby d9_11) rfl rfl ?_
    refine XS.iloadN X101.here hx rfl (hb hby d9_12) rfl ?_
    refine XS.iloadN X101.here hx rfl (hb hby d9_13) rfl ?_
    refine XS.iloadN X101.here hx rfl (hb hby d9_14) rfl ?_
    refine XS.iadd X101.here hx rfl (hb hby d9_15) rfl ?_
    exact k)
  have F103 := (hA.ext E101)
  obtain ⟨_, T102, h102, L102, Lc102, X102, e102, hQ102, l102, st102⟩ := own_cS (own_rmcor4_1_4 l Z a0 hw hst [] ob kb (StrChars.lo8 c0) (StrChars.lo8 c1) (StrChars.lo8 c2) (StrChars.lo8 c3) h101 n0 Xo101 F103) X101 hx hZ hown e101 (own_i hw 94 rfl) (own_i hw 95 rfl) (own_i hw 96 rfl) (own_i hw 97 rfl) (by decide) (g := (mkF m 16 #[sR ob, sI 1, sI 3] [(.int 4), (.int 1), (.ref ob), (.ref b101), (.ref b101)])) rfl (by rw [hml]; rfl) (argsL := [(.ref ob), (.int 1), (.int 4)]) (rest := [(.ref b101), (.ref b101)]) (lenOf own_pd9 rfl) rfl rfl (hb hby d9_16) (W := 2) (Nat.le_of_eq rfl) (K := 2) (N := 7) rfl rfl (by decide) (by decide) (by decide) (by decide)
  obtain ⟨oo102, ko102, hv102, N102q, K102, g102_0, g102_1⟩ := hQ102
  subst hv102
  have Xo102 := Xo101.keep K102 all0
  have KK102 := KK101.trans K102 all0
  have N102 := l102 _ N0 N102q
  have ge_oo102 := Nat.le_trans (own_ole Xo101) g102_1
  have sz_oo102 := Nat.le_trans KK101.1 g102_1
  refine own_to ?_ st102
  refine own_to (V := T102.setTop (mkF m 20 #[sR ob, sI 1, sI 3] [(.int 0), (.ref oo102), (.ref b101), (.ref b101)])) ?_ fun t k => (by
    refine XS.iconst X102.here hx rfl (hb hby d9_19) ?_
    exact k)
  have F105 := (A101.keep K102)
  have F106 := (Fi101_29.keep K102 List.not_mem_nil)
  have F107 := (Fi101_27.keep K102 List.not_mem_nil)
  obtain ⟨_, T104, h104, L104, Lc104, X104, e104, hQ104, l104, st104⟩ := own_cI (own_rmsibb l Z a0 hw hst [] b101 oo102 h102 n0 Xo102 F105 F106 F107 ge_b101) X102 hx hZ hown e102 rfl (own_i hw 109 rfl) (own_i hw 110 rfl) (own_i hw 3 rfl) (own_i hw 111 rfl) (by decide) (g := (mkF m 20 #[sR ob, sI 1, sI 3] [(.int 0), (.ref oo102), (.ref b101), (.ref b101)])) rfl (by rw [hml]; rfl) (argsL := [(.ref oo102), (.int 0)]) (rest := [(.ref b101)]) (lenOf own_pd10 rfl) rfl rfl (hb hby d9_20) (W := 1) (Nat.le_of_eq rfl) (K := 2) (N := 7) rfl rfl (by decide) (by decide) (by decide) (by decide)
  obtain ⟨hv104, N104q, K104, g104_0, g104_1⟩ := hQ104
  subst hv104
  have Xo104 := Xo102.keep K104 (allS ge_b101 all0)
  have KK104 := KK102.trans K104 (allS (Or.inr sz_b101) all0)
  have N104 := l104 _ N102 N104q
  refine own_to ?_ st104
  have F109 := (F105.keep K104)
  have F110 := (g102_0.keep K104 (own_nmS (Ne.symm (Nat.ne_of_lt (Nat.lt_of_lt_of_le A101.lt g102_1))) own_nm0))
  have Fz108 : own_Str Z h104 b101 oo102 ([c1, c2, c3] : List Int32) := own_mkLit F109 g104_0 g104_1 F110 rfl (own_allS l1 (own_allS l2 (own_allS l3 own_all0))) rfl (Nat.le_of_ble_eq_true rfl)
  exact own_retR X104 hx hret (by decide) rfl hlk (hb hby d9_23) (by rw [e104]; exact (⟨b101, oo102, rfl, N104, KK104, Fz108⟩)) (by decide) (by decide)
def own_Qsub4_1_4 (Z : State) (oa ua : Addr) (c0 c1 c2 c3 : Int32) (h0 : Heap) (n0 : Nat) (v : Option Value) (h : Heap) (L : List Loc) : Prop := (∃ (oo : Addr) (ou : Addr), v = some (.ref oo) ∧ Fr n0 L ∧ Keep h0 h [] ∧ (own_Str Z h oo ou ([c1, c2, c3] : List Int32)))
theorem own_ef_sub4_1_4 (m : MethodId) (oa : Addr)  : entryFrame m #[(.ref oa), (.int 1), (.int 4)] 5 = mkF m 0 #[sR oa, sI 1, sI 4, .unset, .unset] [] := by first | (simp [entryFrame, mkF, argsToLocals, Value.category]; done) | rfl
theorem own_rmsub4_1_4 (l : Launch) (Z : State) (a0 : Array Value) (hw : ∀ d ∈ tables_1, d.before a0 Z = true) (hst : own_St Z) (ws : List Jvm.Cond) (oa ua : Addr) (c0 c1 c2 c3 : Int32) (h0 : Heap) (n0 : Nat) (X00 : Old Z n0 h0) (l0 : ¬ c0 < 0 ∧ ¬ (255 : Int32) < c0) (l1 : ¬ c1 < 0 ∧ ¬ (255 : Int32) < c1) (l2 : ¬ c2 < 0 ∧ ¬ (255 : Int32) < c2) (l3 : ¬ c3 < 0 ∧ ¬ (255 : Int32) < c3) (hS : own_Str Z h0 oa ua ([c0, c1, c2, c3] : List Int32)) :
    own_MF l own_mn10 jdk_42_method_92_code 5 (Option.some (Jvm.ClassFile.FieldType.object "java/lang/String")) ws (own_R 4 2 7 64) #[(.ref oa), (.int 1), (.int 4)] Z h0 (own_Qsub4_1_4 Z oa ua c0 c1 c2 c3 h0 n0) := by
  refine own_body (plainFor_of_name own_pn2) (fun m => own_ef_sub4_1_4 m oa ) ?_
  intro p e s m below meth c s₁ hx hby hret hlk hml hZ hown hnm hh X0 e0
  have N0 := Fr.nil n0
  have KK0 : Keep h0 h0 [] := Keep.refl h0 _
  obtain ⟨⟨G1, O2, P5⟩, ⟨G3, O4, rG3⟩, -⟩ := id hst
  obtain ⟨sk101, sE101, sV101, sC101, sK101', sb101⟩ := own_Str.latinL hS (own_lat2 (own_allS l0 (own_allS l1 (own_allS l2 (own_allS l3 own_all0)))))
  have sK101 : Arv Z h0 ua sk101 .byte (4 : Int32) [(.int (StrChars.lo8 c0)), (.int (StrChars.lo8 c1)), (.int (StrChars.lo8 c2)), (.int (StrChars.lo8 c3))] (.int (0 : Int32)) := sK101'
  refine own_to (V := s₁.setTop (mkF m 1 #[sR oa, sI 1, sI 4, .unset, .unset] [(.ref oa)])) ?_ fun t k => (by
    refine XS.aloadN X0.here hx rfl (hb hby d10_0) rfl rfl ?_
    exact k)
  obtain ⟨sE103, sd103, sN103, sk103, sv103, sV103, sC103, sK103, sc103, sb103, sl103⟩ := id hS
  obtain ⟨cq102, kq102, q102a, q102b, q102c⟩ := isOf hZ e0 sE101
  obtain ⟨_, _, ⟨T102, L102, k102, n102⟩, -, X102, ⟨Lc102, hQ102, l102, y102, z102⟩, st102⟩ := X0.virtualBack hx (y := own_mn11) (z := own_mn11) hown (mvT hZ (own_i hw 66 rfl)) (mvT hZ (own_i hw 67 rfl)) (notFace_of_selects (args := #[]) (mvT hZ (own_i hw 69 rfl))) (mvT hZ (own_i hw 69 rfl)) (mvT hZ (own_i hw 68 rfl)) (by decide) (StrChars.Road.lenW (W := 0) hZ (own_hln hw) (kI := 4) (own_i hw 2 rfl) sE103 sV103 sC103 sK103 sc103 sb103 (O2.ext X00.2) P5 sl103 (by decide) (by decide)) q102a q102c (g := (mkF m 1 #[sR oa, sI 1, sI 4, .unset, .unset] [(.ref oa)])) rfl (by rw [hml]; rfl) (Steps.refl _) (argsL := []) (rest := []) (lenOf own_pd2 rfl) rfl (by show 2 * 0 + _ ≤ _; exact Nat.le_of_eq rfl) (hb hby d10_1) (fun _ _ => ⟨rfl, e0, (by decide : 0 + 0 ≤ _), (by decide : 0 + 0 ≤ _)⟩)
  dsimp only [own_R, Pt.U, Pt.locs, Pt.cells, Pt.slots] at X102 l102 y102 z102 st102 hQ102
  subst y102 z102
  obtain ⟨hv102, hL102, hh102⟩ := hQ102
  subst hL102
  have N102 : Fr n0 L102 := by rw [l102]; exact Fr.app N0 (Fr.nil n0)
  subst hv102
  refine own_to ?_ (fun t k => st102.trans k)
  refine own_to (V := T102.setTop (mkF m 8 #[sR oa, sI 1, sI 4, sI 4, .unset] [(.int 4), (.int 4), (.int 1)])) ?_ fun t k => (by
    refine XS.istoreN X102.here hx rfl (hb hby d10_4) rfl (l' := #[sR oa, sI 1, sI 4, sI 4, .unset]) rfl ?_
    refine XS.iloadN X102.here hx rfl (hb hby d10_5) rfl ?_
    refine XS.iloadN X102.here hx rfl (hb hby d10_6) rfl ?_
    refine XS.iloadN X102.here hx rfl (hb hby d10_7) rfl ?_
    exact k)
  obtain ⟨_, T104, h104, L104, Lc104, X104, e104, hQ104, l104, st104⟩ := own_cS (own_rmcbbe l Z a0 hw hst [] (1 : Int32) (4 : Int32) (4 : Int32) h0 n0 X00 (by first | assumption | decide | omega | (simp; done) | rfl) (by first | assumption | decide | omega | (simp; done) | rfl) (by first | assumption | decide | omega | (simp; done) | rfl)) X102 hx hZ hown hh102 (own_i hw 76 rfl) (own_i hw 77 rfl) (own_i hw 3 rfl) (own_i hw 78 rfl) (by decide) (g := (mkF m 8 #[sR oa, sI 1, sI 4, sI 4, .unset] [(.int 4), (.int 4), (.int 1)])) rfl (by rw [hml]; rfl) (argsL := [(.int 1), (.int 4), (.int 4)]) (rest := []) (lenOf own_pd3 rfl) rfl rfl (hb hby d10_8) (W := 0) (Nat.le_of_eq rfl) (K := 0) (N := 0) rfl rfl (by decide) (by decide) (by decide) (by decide)
  obtain ⟨hv104, N104q, K104⟩ := hQ104
  subst hv104
  have Xo104 := X00.keep K104 all0
  have KK104 := KK0.trans K104 all0
  have N104 := l104 _ N102 N104q
  refine own_to ?_ st104
  refine own_to (V := T104.setTop (mkF m 28 #[sR oa, sI 1, sI 4, sI 4, sI 3] [(.ref oa)])) ?_ fun t k => (by
    refine XS.iloadN X104.here hx rfl (hb hby d10_11) rfl ?_
    refine XS.ifYes X104.here hx rfl (pc0 := 12) (pc' := 22) rfl (hb hby d10_12) rfl ((if0 _ _).trans (feq ((by decide) : ¬ ((1 : Int32) = (0 : Int32)))).2) (by decide) (by decide) ?_
    refine XS.iloadN X104.here hx rfl (hb hby d10_22) rfl ?_
    refine XS.iloadN X104.here hx rfl (hb hby d10_23) rfl ?_
    refine XS.isub X104.here hx rfl (hb hby d10_24) rfl ?_
    refine XS.istore X104.here hx rfl (hb hby d10_25) rfl (l' := #[sR oa, sI 1, sI 4, sI 4, sI 3]) rfl ?_
    refine XS.aloadN X104.here hx rfl (hb hby d10_27) rfl rfl ?_
    exact k)
  have F106 := (sE101.keep K104)
  have F107 := (sC101.keep K104 List.not_mem_nil)
  obtain ⟨_, T105, h105, L105, Lc105, X105, e105, hQ105, l105, st105⟩ := own_cV (own_rmisl1 l Z a0 hw hst [] oa h104 n0 Xo104 F106 F107) X104 hx hZ hown e104 F106 (own_i hw 84 rfl) (own_i hw 85 rfl) (notFace_of_selects (args := #[]) (mvT hZ (own_i hw 87 rfl))) (own_i hw 87 rfl) (own_i hw 86 rfl) (own_i hw 3 rfl) (own_i hw 88 rfl) (by decide) (g := (mkF m 28 #[sR oa, sI 1, sI 4, sI 4, sI 3] [(.ref oa)])) rfl (by rw [hml]; rfl) (argsL := []) (rest := []) (lenOf own_pd4 rfl) rfl rfl (hb hby d10_28) (W := 0) (Nat.le_of_eq rfl) (K := 0) (N := 0) rfl rfl (by decide) (by decide) (by decide) (by decide)
  obtain ⟨hv105, N105q, K105⟩ := hQ105
  subst hv105
  have Xo105 := Xo104.keep K105 all0
  have KK105 := KK104.trans K105 all0
  have N105 := l105 _ N104 N105q
  refine own_to ?_ st105
  refine own_to (V := T105.setTop (mkF m 35 #[sR oa, sI 1, sI 4, sI 4, sI 3] [(.ref oa)])) ?_ fun t k => (by
    refine XS.ifNo X105.here hx rfl (hb hby d10_31) rfl ((if0 _ _).trans (feq ((by decide) : ¬ ((1 : Int32) = (0 : Int32)))).1) ?_
    refine XS.aloadN X105.here hx rfl (hb hby d10_34) rfl rfl ?_
    exact k)
  have F108 := ((sV101.keep K104 List.not_mem_nil).keep K105 List.not_mem_nil)
  obtain ⟨T109, X109, e109, st109⟩ := getF X105 hx hZ hown (host := "") (Or.inl (own_i hw 28 rfl)) Via.refl e105 F108 (g := (mkF m 35 #[sR oa, sI 1, sI 4, sI 4, sI 3] [(.ref oa)])) rfl rfl (hb hby d10_35)
  refine own_to ?_ st109
  refine own_to (V := T109.setTop (mkF m 41 #[sR oa, sI 1, sI 4, sI 4, sI 3] [(.int 3), (.int 1), (.ref ua)])) ?_ fun t k => (by
    refine XS.iloadN X109.here hx rfl (hb hby d10_38) rfl ?_
    refine XS.iload X109.here hx rfl (hb hby d10_39) rfl ?_
    exact k)
  have F111 := ((sK101.keep K104 List.not_mem_nil).keep K105 List.not_mem_nil)
  obtain ⟨_, T110, h110, L110, Lc110, X110, e110, hQ110, l110, st110⟩ := own_cS (own_rmnst4_1_3 l Z a0 hw hst [] ua sk101 c0 c1 c2 c3 h105 n0 Xo105 l0 l1 l2 l3 F111) X109 hx hZ hown e109 (own_i hw 89 rfl) (own_i hw 90 rfl) (own_i hw 91 rfl) (own_i hw 92 rfl) (by decide) (g := (mkF m 41 #[sR oa, sI 1, sI 4, sI 4, sI 3] [(.int 3), (.int 1), (.ref ua)])) rfl (by rw [hml]; rfl) (argsL := [(.ref ua), (.int 1), (.int 3)]) (rest := []) (lenOf own_pd5 rfl) rfl rfl (hb hby d10_41) (W := 0) (Nat.le_of_eq rfl) (K := 2) (N := 7) rfl rfl (by decide) (by decide) (by decide) (by decide)
  obtain ⟨oo110, ou110, hv110, N110q, K110, g110_0⟩ := hQ110
  subst hv110
  have Xo110 := Xo105.keep K110 all0
  have KK110 := KK105.trans K110 all0
  have N110 := l110 _ N105 N110q
  refine own_to ?_ st110
  refine own_to (V := T110.setTop (mkF m 57 #[sR oa, sI 1, sI 4, sI 4, sI 3] [(.ref oo110)])) ?_ fun t k => (by
    refine XS.goto X110.here hx rfl (pc0 := 44) (pc' := 57) rfl (hb hby d10_44) (by decide) (by decide) ?_
    exact k)
  exact own_retR X110 hx hret (by decide) rfl hlk (hb hby d10_57) (by rw [e110]; exact (⟨oo110, ou110, rfl, N110, KK110, g110_0⟩)) (by decide) (by decide)
def own_Qtos14 (Z : State) (ow oa ua : Addr) (c0 c1 c2 c3 : Int32) (h0 : Heap) (n0 : Nat) (v : Option Value) (h : Heap) (L : List Loc) : Prop := (∃ (oo : Addr) (ou : Addr), v = some (.ref oo) ∧ Fr n0 L ∧ Keep h0 h [] ∧ (own_Str Z h oo ou ([c1, c2, c3] : List Int32)))
theorem own_ef_tos14 (m : MethodId) (ow : Addr)  : entryFrame m #[(.ref ow)] 1 = mkF m 0 #[sR ow] [] := by first | (simp [entryFrame, mkF, argsToLocals, Value.category]; done) | rfl
theorem own_rmtos14 (l : Launch) (Z : State) (a0 : Array Value) (hw : ∀ d ∈ tables_1, d.before a0 Z = true) (hst : own_St Z) (ws : List Jvm.Cond) (ow oa ua : Addr) (c0 c1 c2 c3 : Int32) (h0 : Heap) (n0 : Nat) (X00 : Old Z n0 h0) (l0 : ¬ c0 < 0 ∧ ¬ (255 : Int32) < c0) (l1 : ¬ c1 < 0 ∧ ¬ (255 : Int32) < c1) (l2 : ¬ c2 < 0 ∧ ¬ (255 : Int32) < c2) (l3 : ¬ c3 < 0 ∧ ¬ (255 : Int32) < c3) (hE : Exa Z h0 ow nm1) (f1 : Fld Z h0 ow nm1 "text" nm2 (.ref oa)) (f2 : Fld Z h0 ow nm1 "start" "I" (.int 1)) (f3 : Fld Z h0 ow nm1 "end" "I" (.int 4)) (hS : own_Str Z h0 oa ua ([c0, c1, c2, c3] : List Int32)) :
    own_MF l own_mn12 prog_77_method_5_code 1 (Option.some (Jvm.ClassFile.FieldType.object "java/lang/String")) ws (own_R 5 2 7 80) #[(.ref ow)] Z h0 (own_Qtos14 Z ow oa ua c0 c1 c2 c3 h0 n0) := by
  refine own_body (plainFor_of_name own_pn4) (fun m => own_ef_tos14 m ow ) ?_
  intro p e s m below meth c s₁ hx hby hret hlk hml hZ hown hnm hh X0 e0
  have N0 := Fr.nil n0
  have KK0 : Keep h0 h0 [] := Keep.refl h0 _
  obtain ⟨⟨G1, O2, P5⟩, ⟨G3, O4, rG3⟩, -⟩ := id hst
  refine own_to (V := s₁.setTop (mkF m 1 #[sR ow] [(.ref ow)])) ?_ fun t k => (by
    refine XS.aloadN X0.here hx rfl (hb hby d11_0) rfl rfl ?_
    exact k)
  obtain ⟨T101, X101, e101, st101⟩ := getF X0 hx hZ hown (host := "") (Or.inl (own_i hw 50 rfl)) Via.refl e0 f1 (g := (mkF m 1 #[sR ow] [(.ref ow)])) rfl rfl (hb hby d11_1)
  refine own_to ?_ st101
  refine own_to (V := T101.setTop (mkF m 5 #[sR ow] [(.ref ow), (.ref oa)])) ?_ fun t k => (by
    refine XS.aloadN X101.here hx rfl (hb hby d11_4) rfl rfl ?_
    exact k)
  obtain ⟨T102, X102, e102, st102⟩ := getF X101 hx hZ hown (host := "") (Or.inl (own_i hw 52 rfl)) Via.refl e101 f2 (g := (mkF m 5 #[sR ow] [(.ref ow), (.ref oa)])) rfl rfl (hb hby d11_5)
  refine own_to ?_ st102
  refine own_to (V := T102.setTop (mkF m 9 #[sR ow] [(.ref ow), (.int 1), (.ref oa)])) ?_ fun t k => (by
    refine XS.aloadN X102.here hx rfl (hb hby d11_8) rfl rfl ?_
    exact k)
  obtain ⟨T103, X103, e103, st103⟩ := getF X102 hx hZ hown (host := "") (Or.inl (own_i hw 54 rfl)) Via.refl e102 f3 (g := (mkF m 9 #[sR ow] [(.ref ow), (.int 1), (.ref oa)])) rfl rfl (hb hby d11_9)
  refine own_to ?_ st103
  obtain ⟨_, T104, h104, L104, Lc104, X104, e104, hQ104, l104, st104⟩ := own_cV (own_rmsub4_1_4 l Z a0 hw hst [] oa ua c0 c1 c2 c3 h0 n0 X00 l0 l1 l2 l3 hS) X103 hx hZ hown e103 hS.1 (own_i hw 61 rfl) (own_i hw 62 rfl) (notFace_of_selects (args := #[]) (mvT hZ (own_i hw 64 rfl))) (own_i hw 64 rfl) (own_i hw 63 rfl) (own_i hw 3 rfl) (own_i hw 65 rfl) (by decide) (g := (mkF m 12 #[sR ow] [(.int 4), (.int 1), (.ref oa)])) rfl (by rw [hml]; rfl) (argsL := [(.int 1), (.int 4)]) (rest := []) (lenOf own_pd6 rfl) rfl rfl (hb hby d11_12) (W := 0) (Nat.le_of_eq rfl) (K := 2) (N := 7) rfl rfl (by decide) (by decide) (by decide) (by decide)
  obtain ⟨oo104, ou104, hv104, N104q, K104, g104_0⟩ := hQ104
  subst hv104
  have Xo104 := X00.keep K104 all0
  have KK104 := KK0.trans K104 all0
  have N104 := l104 _ N0 N104q
  refine own_to ?_ st104
  exact own_retR X104 hx hret (by decide) rfl hlk (hb hby d11_15) (by rw [e104]; exact (⟨oo104, ou104, rfl, N104, KK104, g104_0⟩)) (by decide) (by decide)
def own_Qsm310 (Z : State) (oa ua ob : Addr) (kb : ClassId) (c0 c1 c2 c3 : Int32) (h0 : Heap) (n0 : Nat) (v : Option Value) (h : Heap) (L : List Loc) : Prop := (v = some (.int 1) ∧ Fr n0 L ∧ Keep h0 h [])
theorem own_ef_sm310 (m : MethodId) (oa : Addr) (ob : Addr)  : entryFrame m #[(.ref oa), (.int 0), (.ref ob), (.int 1), (.int 3)] 5 = mkF m 0 #[sR oa, sI 0, sR ob, sI 1, sI 3] [] := by first | (simp [entryFrame, mkF, argsToLocals, Value.category]; done) | rfl
theorem own_rmsm310 (l : Launch) (Z : State) (a0 : Array Value) (hw : ∀ d ∈ tables_1, d.before a0 Z = true) (hst : own_St Z) (ws : List Jvm.Cond) (oa ua ob : Addr) (kb : ClassId) (c0 c1 c2 c3 : Int32) (h0 : Heap) (n0 : Nat) (X00 : Old Z n0 h0) (l0 : ¬ c0 < 0 ∧ ¬ (255 : Int32) < c0) (l1 : ¬ c1 < 0 ∧ ¬ (255 : Int32) < c1) (l2 : ¬ c2 < 0 ∧ ¬ (255 : Int32) < c2) (l3 : ¬ c3 < 0 ∧ ¬ (255 : Int32) < c3) (hS : own_Str Z h0 oa ua ([c1, c2, c3] : List Int32)) (hA : Arv Z h0 ob kb .char (4 : Int32) [(.int c0), (.int c1), (.int c2), (.int c3)] (.int (0 : Int32))) :
    own_MF l own_mn15 method_2_code 5 (Option.some Jvm.ClassFile.FieldType.boolean) ws (own_R 4 0 0 53) #[(.ref oa), (.int 0), (.ref ob), (.int 1), (.int 3)] Z h0 (own_Qsm310 Z oa ua ob kb c0 c1 c2 c3 h0 n0) := by
  refine own_body (plainFor_of_name own_pn6) (fun m => own_ef_sm310 m oa ob ) ?_
  intro p e s m below meth c s₁ hx hby hret hlk hml hZ hown hnm hh X0 e0
  have N0 := Fr.nil n0
  have KK0 : Keep h0 h0 [] := Keep.refl h0 _
  obtain ⟨⟨G1, O2, P5⟩, ⟨G3, O4, rG3⟩, -⟩ := id hst
  refine own_to (V := s₁.setTop (mkF m 10 #[sR oa, sI 0, sR ob, sI 1, sI 3] [(.int 0), (.ref oa)])) ?_ fun t k => (by
    refine XS.iloadN X0.here hx rfl (hb hby d14_0) rfl ?_
    refine XS.iload X0.here hx rfl (hb hby d14_1) rfl ?_
    refine XS.icmpYes X0.here hx rfl (pc0 := 3) (pc' := 8) rfl (hb hby d14_3) rfl (tlt ((by decide) : (0 : Int32) < (3 : Int32))).1 (by decide) (by decide) ?_
    refine XS.aloadN X0.here hx rfl (hb hby d14_8) rfl rfl ?_
    refine XS.iloadN X0.here hx rfl (hb hby d14_9) rfl ?_
    exact k)
  obtain ⟨sN102, sk102, sv102, sE102, sV102, sC102, sK102, sc102, sb102, sl102⟩ := own_Str.latin hS (own_lat2 (own_allS l1 (own_allS l2 (own_allS l3 own_all0))))
  obtain ⟨cq101, kq101, q101a, q101b, q101c⟩ := isOf hZ e0 hS.1
  obtain ⟨_, _, ⟨T101, L101, k101, n101⟩, -, X101, ⟨Lc101, hQ101, l101, y101, z101⟩, st101⟩ := X0.virtualBack hx (y := own_mn16) (z := own_mn16) hown (mvT hZ (own_i hw 117 rfl)) (mvT hZ (own_i hw 118 rfl)) (notFace_of_selects (args := #[]) (mvT hZ (own_i hw 120 rfl))) (mvT hZ (own_i hw 120 rfl)) (mvT hZ (own_i hw 119 rfl)) (by decide) (StrChars.Road.chN (W := 0) hZ (own_hch hw) (kI := 4) (own_i hw 2 rfl) sE102 sV102 sC102 sK102 sc102 sb102 (O2.ext X00.2) P5 (O4.ext X00.2) rG3 sl102 (i := 0) (Nat.le_of_ble_eq_true rfl) (j := (0 : Int32)) rfl (by decide) (by decide)) q101a q101c (g := (mkF m 10 #[sR oa, sI 0, sR ob, sI 1, sI 3] [(.int 0), (.ref oa)])) rfl (by rw [hml]; rfl) (Steps.refl _) (argsL := [(.int 0)]) (rest := []) (lenOf own_pd11 rfl) rfl (by show 2 * 0 + _ ≤ _; exact Nat.le_of_eq rfl) (hb hby d14_10) (fun _ _ => ⟨rfl, e0, (by decide : 0 + 0 ≤ _), (by decide : 0 + 0 ≤ _)⟩)
  dsimp only [own_R, Pt.U, Pt.locs, Pt.cells, Pt.slots] at X101 l101 y101 z101 st101 hQ101
  subst y101 z101
  obtain ⟨hv101, hL101, hh101⟩ := hQ101
  subst hL101
  have N101 : Fr n0 L101 := by rw [l101]; exact Fr.app N0 (Fr.nil n0)
  subst hv101
  refine own_to ?_ (fun t k => st101.trans k)
  refine own_to (V := T101.setTop (mkF m 17 #[sR oa, sI 0, sR ob, sI 1, sI 3] [(.int 1), (.ref ob), (.int c1)])) ?_ fun t k => (by
    refine XS.aloadN X101.here hx rfl (hb hby d14_13) rfl rfl ?_
    refine XS.iloadN X101.here hx rfl (hb hby d14_14) rfl ?_
    refine XS.iloadN X101.here hx rfl (hb hby d14_15) rfl ?_
    refine XS.iadd X101.here hx rfl (hb hby d14_16) rfl ?_
    exact k)
  obtain ⟨cl103, Ar103, q103, S103, M103, H103, G103⟩ := id hA
  have hin103 : ¬ ((1 : Int32) < 0 ∨ cl103.slots.size ≤ ((1 : Int32)).toNatClampNeg) := inb_of S103 ⟨by decide, by decide⟩
  refine own_to (V := T101.setTop (mkF m 18 #[sR oa, sI 0, sR ob, sI 1, sI 3] [(.int c1), (.int c1)])) ?_ (fun t k => X101.caload hx (j := (1 : Int32)) (v := (.int c1)) (by rw [hh101]; exact Ar103.1) (State.isArrayOf_alike hZ.alike Ar103.2.1) Ar103.2.2 hin103 (Has.at H103 hin103 rfl) (g := (mkF m 17 #[sR oa, sI 0, sR ob, sI 1, sI 3] [(.int 1), (.ref ob), (.int c1)])) rfl rfl (hb hby d14_17) t k)
  refine own_to (V := T101.setTop (mkF m 26 #[sR oa, sI 0, sR ob, sI 1, sI 3] [(.int 1)])) ?_ fun t k => (by
    refine XS.icmpNo X101.here hx rfl (hb hby d14_18) rfl (teq (rfl : c1 = c1)).2 ?_
    refine XS.iconst X101.here hx rfl (hb hby d14_21) ?_
    refine XS.goto X101.here hx rfl (pc0 := 22) (pc' := 26) rfl (hb hby d14_22) (by decide) (by decide) ?_
    exact k)
  exact own_retN X101 hx (t := .boolean) (w := (1 : Int32)) hret (by decide) rfl hlk (hb hby d14_26) (by rw [hh101]; exact (⟨rfl, N101, KK0⟩)) (by decide) (by decide)
def own_Qsm311 (Z : State) (oa ua ob : Addr) (kb : ClassId) (c0 c1 c2 c3 : Int32) (h0 : Heap) (n0 : Nat) (v : Option Value) (h : Heap) (L : List Loc) : Prop := (v = some (.int 1) ∧ Fr n0 L ∧ Keep h0 h [])
theorem own_ef_sm311 (m : MethodId) (oa : Addr) (ob : Addr)  : entryFrame m #[(.ref oa), (.int 1), (.ref ob), (.int 1), (.int 3)] 5 = mkF m 0 #[sR oa, sI 1, sR ob, sI 1, sI 3] [] := by first | (simp [entryFrame, mkF, argsToLocals, Value.category]; done) | rfl
theorem own_rmsm311 (l : Launch) (Z : State) (a0 : Array Value) (hw : ∀ d ∈ tables_1, d.before a0 Z = true) (hst : own_St Z) (ws : List Jvm.Cond) (oa ua ob : Addr) (kb : ClassId) (c0 c1 c2 c3 : Int32) (h0 : Heap) (n0 : Nat) (X00 : Old Z n0 h0) (l0 : ¬ c0 < 0 ∧ ¬ (255 : Int32) < c0) (l1 : ¬ c1 < 0 ∧ ¬ (255 : Int32) < c1) (l2 : ¬ c2 < 0 ∧ ¬ (255 : Int32) < c2) (l3 : ¬ c3 < 0 ∧ ¬ (255 : Int32) < c3) (hS : own_Str Z h0 oa ua ([c1, c2, c3] : List Int32)) (hA : Arv Z h0 ob kb .char (4 : Int32) [(.int c0), (.int c1), (.int c2), (.int c3)] (.int (0 : Int32))) :
    own_MF l own_mn15 method_2_code 5 (Option.some Jvm.ClassFile.FieldType.boolean) ws (own_R 4 0 0 53) #[(.ref oa), (.int 1), (.ref ob), (.int 1), (.int 3)] Z h0 (own_Qsm311 Z oa ua ob kb c0 c1 c2 c3 h0 n0) := by
  refine own_body (plainFor_of_name own_pn6) (fun m => own_ef_sm311 m oa ob ) ?_
  intro p e s m below meth c s₁ hx hby hret hlk hml hZ hown hnm hh X0 e0
  have N0 := Fr.nil n0
  have KK0 : Keep h0 h0 [] := Keep.refl h0 _
  obtain ⟨⟨G1, O2, P5⟩, ⟨G3, O4, rG3⟩, -⟩ := id hst
  refine own_to (V := s₁.setTop (mkF m 10 #[sR oa, sI 1, sR ob, sI 1, sI 3] [(.int 1), (.ref oa)])) ?_ fun t k => (by
    refine XS.iloadN X0.here hx rfl (hb hby d14_0) rfl ?_
    refine XS.iload X0.here hx rfl (hb hby d14_1) rfl ?_
    refine XS.icmpYes X0.here hx rfl (pc0 := 3) (pc' := 8) rfl (hb hby d14_3) rfl (tlt ((by decide) : (1 : Int32) < (3 : Int32))).1 (by decide) (by decide) ?_
    refine XS.aloadN X0.here hx rfl (hb hby d14_8) rfl rfl ?_
    refine XS.iloadN X0.here hx rfl (hb hby d14_9) rfl ?_
    exact k)
  obtain ⟨sN102, sk102, sv102, sE102, sV102, sC102, sK102, sc102, sb102, sl102⟩ := own_Str.latin hS (own_lat2 (own_allS l1 (own_allS l2 (own_allS l3 own_all0))))
  obtain ⟨cq101, kq101, q101a, q101b, q101c⟩ := isOf hZ e0 hS.1
  obtain ⟨_, _, ⟨T101, L101, k101, n101⟩, -, X101, ⟨Lc101, hQ101, l101, y101, z101⟩, st101⟩ := X0.virtualBack hx (y := own_mn16) (z := own_mn16) hown (mvT hZ (own_i hw 117 rfl)) (mvT hZ (own_i hw 118 rfl)) (notFace_of_selects (args := #[]) (mvT hZ (own_i hw 120 rfl))) (mvT hZ (own_i hw 120 rfl)) (mvT hZ (own_i hw 119 rfl)) (by decide) (StrChars.Road.chN (W := 0) hZ (own_hch hw) (kI := 4) (own_i hw 2 rfl) sE102 sV102 sC102 sK102 sc102 sb102 (O2.ext X00.2) P5 (O4.ext X00.2) rG3 sl102 (i := 1) (Nat.le_of_ble_eq_true rfl) (j := (1 : Int32)) rfl (by decide) (by decide)) q101a q101c (g := (mkF m 10 #[sR oa, sI 1, sR ob, sI 1, sI 3] [(.int 1), (.ref oa)])) rfl (by rw [hml]; rfl) (Steps.refl _) (argsL := [(.int 1)]) (rest := []) (lenOf own_pd11 rfl) rfl (by show 2 * 0 + _ ≤ _; exact Nat.le_of_eq rfl) (hb hby d14_10) (fun _ _ => ⟨rfl, e0, (by decide : 0 + 0 ≤ _), (by decide : 0 + 0 ≤ _)⟩)
  dsimp only [own_R, Pt.U, Pt.locs, Pt.cells, Pt.slots] at X101 l101 y101 z101 st101 hQ101
  subst y101 z101
  obtain ⟨hv101, hL101, hh101⟩ := hQ101
  subst hL101
  have N101 : Fr n0 L101 := by rw [l101]; exact Fr.app N0 (Fr.nil n0)
  subst hv101
  refine own_to ?_ (fun t k => st101.trans k)
  refine own_to (V := T101.setTop (mkF m 17 #[sR oa, sI 1, sR ob, sI 1, sI 3] [(.int 2), (.ref ob), (.int c2)])) ?_ fun t k => (by
    refine XS.aloadN X101.here hx rfl (hb hby d14_13) rfl rfl ?_
    refine XS.iloadN X101.here hx rfl (hb hby d14_14) rfl ?_
    refine XS.iloadN X101.here hx rfl (hb hby d14_15) rfl ?_
    refine XS.iadd X101.here hx rfl (hb hby d14_16) rfl ?_
    exact k)
  obtain ⟨cl103, Ar103, q103, S103, M103, H103, G103⟩ := id hA
  have hin103 : ¬ ((2 : Int32) < 0 ∨ cl103.slots.size ≤ ((2 : Int32)).toNatClampNeg) := inb_of S103 ⟨by decide, by decide⟩
  refine own_to (V := T101.setTop (mkF m 18 #[sR oa, sI 1, sR ob, sI 1, sI 3] [(.int c2), (.int c2)])) ?_ (fun t k => X101.caload hx (j := (2 : Int32)) (v := (.int c2)) (by rw [hh101]; exact Ar103.1) (State.isArrayOf_alike hZ.alike Ar103.2.1) Ar103.2.2 hin103 (Has.at H103 hin103 rfl) (g := (mkF m 17 #[sR oa, sI 1, sR ob, sI 1, sI 3] [(.int 2), (.ref ob), (.int c2)])) rfl rfl (hb hby d14_17) t k)
  refine own_to (V := T101.setTop (mkF m 26 #[sR oa, sI 1, sR ob, sI 1, sI 3] [(.int 1)])) ?_ fun t k => (by
    refine XS.icmpNo X101.here hx rfl (hb hby d14_18) rfl (teq (rfl : c2 = c2)).2 ?_
    refine XS.iconst X101.here hx rfl (hb hby d14_21) ?_
    refine XS.goto X101.here hx rfl (pc0 := 22) (pc' := 26) rfl (hb hby d14_22) (by decide) (by decide) ?_
    exact k)
  exact own_retN X101 hx (t := .boolean) (w := (1 : Int32)) hret (by decide) rfl hlk (hb hby d14_26) (by rw [hh101]; exact (⟨rfl, N101, KK0⟩)) (by decide) (by decide)
def own_Qsm312 (Z : State) (oa ua ob : Addr) (kb : ClassId) (c0 c1 c2 c3 : Int32) (h0 : Heap) (n0 : Nat) (v : Option Value) (h : Heap) (L : List Loc) : Prop := (v = some (.int 1) ∧ Fr n0 L ∧ Keep h0 h [])
theorem own_ef_sm312 (m : MethodId) (oa : Addr) (ob : Addr)  : entryFrame m #[(.ref oa), (.int 2), (.ref ob), (.int 1), (.int 3)] 5 = mkF m 0 #[sR oa, sI 2, sR ob, sI 1, sI 3] [] := by first | (simp [entryFrame, mkF, argsToLocals, Value.category]; done) | rfl
theorem own_rmsm312 (l : Launch) (Z : State) (a0 : Array Value) (hw : ∀ d ∈ tables_1, d.before a0 Z = true) (hst : own_St Z) (ws : List Jvm.Cond) (oa ua ob : Addr) (kb : ClassId) (c0 c1 c2 c3 : Int32) (h0 : Heap) (n0 : Nat) (X00 : Old Z n0 h0) (l0 : ¬ c0 < 0 ∧ ¬ (255 : Int32) < c0) (l1 : ¬ c1 < 0 ∧ ¬ (255 : Int32) < c1) (l2 : ¬ c2 < 0 ∧ ¬ (255 : Int32) < c2) (l3 : ¬ c3 < 0 ∧ ¬ (255 : Int32) < c3) (hS : own_Str Z h0 oa ua ([c1, c2, c3] : List Int32)) (hA : Arv Z h0 ob kb .char (4 : Int32) [(.int c0), (.int c1), (.int c2), (.int c3)] (.int (0 : Int32))) :
    own_MF l own_mn15 method_2_code 5 (Option.some Jvm.ClassFile.FieldType.boolean) ws (own_R 4 0 0 53) #[(.ref oa), (.int 2), (.ref ob), (.int 1), (.int 3)] Z h0 (own_Qsm312 Z oa ua ob kb c0 c1 c2 c3 h0 n0) := by
  refine own_body (plainFor_of_name own_pn6) (fun m => own_ef_sm312 m oa ob ) ?_
  intro p e s m below meth c s₁ hx hby hret hlk hml hZ hown hnm hh X0 e0
  have N0 := Fr.nil n0
  have KK0 : Keep h0 h0 [] := Keep.refl h0 _
  obtain ⟨⟨G1, O2, P5⟩, ⟨G3, O4, rG3⟩, -⟩ := id hst
  refine own_to (V := s₁.setTop (mkF m 10 #[sR oa, sI 2, sR ob, sI 1, sI 3] [(.int 2), (.ref oa)])) ?_ fun t k => (by
    refine XS.iloadN X0.here hx rfl (hb hby d14_0) rfl ?_
    refine XS.iload X0.here hx rfl (hb hby d14_1) rfl ?_
    refine XS.icmpYes X0.here hx rfl (pc0 := 3) (pc' := 8) rfl (hb hby d14_3) rfl (tlt ((by decide) : (2 : Int32) < (3 : Int32))).1 (by decide) (by decide) ?_
    refine XS.aloadN X0.here hx rfl (hb hby d14_8) rfl rfl ?_
    refine XS.iloadN X0.here hx rfl (hb hby d14_9) rfl ?_
    exact k)
  obtain ⟨sN102, sk102, sv102, sE102, sV102, sC102, sK102, sc102, sb102, sl102⟩ := own_Str.latin hS (own_lat2 (own_allS l1 (own_allS l2 (own_allS l3 own_all0))))
  obtain ⟨cq101, kq101, q101a, q101b, q101c⟩ := isOf hZ e0 hS.1
  obtain ⟨_, _, ⟨T101, L101, k101, n101⟩, -, X101, ⟨Lc101, hQ101, l101, y101, z101⟩, st101⟩ := X0.virtualBack hx (y := own_mn16) (z := own_mn16) hown (mvT hZ (own_i hw 117 rfl)) (mvT hZ (own_i hw 118 rfl)) (notFace_of_selects (args := #[]) (mvT hZ (own_i hw 120 rfl))) (mvT hZ (own_i hw 120 rfl)) (mvT hZ (own_i hw 119 rfl)) (by decide) (StrChars.Road.chN (W := 0) hZ (own_hch hw) (kI := 4) (own_i hw 2 rfl) sE102 sV102 sC102 sK102 sc102 sb102 (O2.ext X00.2) P5 (O4.ext X00.2) rG3 sl102 (i := 2) (Nat.le_of_ble_eq_true rfl) (j := (2 : Int32)) rfl (by decide) (by decide)) q101a q101c (g := (mkF m 10 #[sR oa, sI 2, sR ob, sI 1, sI 3] [(.int 2), (.ref oa)])) rfl (by rw [hml]; rfl) (Steps.refl _) (argsL := [(.int 2)]) (rest := []) (lenOf own_pd11 rfl) rfl (by show 2 * 0 + _ ≤ _; exact Nat.le_of_eq rfl) (hb hby d14_10) (fun _ _ => ⟨rfl, e0, (by decide : 0 + 0 ≤ _), (by decide : 0 + 0 ≤ _)⟩)
  dsimp only [own_R, Pt.U, Pt.locs, Pt.cells, Pt.slots] at X101 l101 y101 z101 st101 hQ101
  subst y101 z101
  obtain ⟨hv101, hL101, hh101⟩ := hQ101
  subst hL101
  have N101 : Fr n0 L101 := by rw [l101]; exact Fr.app N0 (Fr.nil n0)
  subst hv101
  refine own_to ?_ (fun t k => st101.trans k)
  refine own_to (V := T101.setTop (mkF m 17 #[sR oa, sI 2, sR ob, sI 1, sI 3] [(.int 3), (.ref ob), (.int c3)])) ?_ fun t k => (by
    refine XS.aloadN X101.here hx rfl (hb hby d14_13) rfl rfl ?_
    refine XS.iloadN X101.here hx rfl (hb hby d14_14) rfl ?_
    refine XS.iloadN X101.here hx rfl (hb hby d14_15) rfl ?_
    refine XS.iadd X101.here hx rfl (hb hby d14_16) rfl ?_
    exact k)
  obtain ⟨cl103, Ar103, q103, S103, M103, H103, G103⟩ := id hA
  have hin103 : ¬ ((3 : Int32) < 0 ∨ cl103.slots.size ≤ ((3 : Int32)).toNatClampNeg) := inb_of S103 ⟨by decide, by decide⟩
  refine own_to (V := T101.setTop (mkF m 18 #[sR oa, sI 2, sR ob, sI 1, sI 3] [(.int c3), (.int c3)])) ?_ (fun t k => X101.caload hx (j := (3 : Int32)) (v := (.int c3)) (by rw [hh101]; exact Ar103.1) (State.isArrayOf_alike hZ.alike Ar103.2.1) Ar103.2.2 hin103 (Has.at H103 hin103 rfl) (g := (mkF m 17 #[sR oa, sI 2, sR ob, sI 1, sI 3] [(.int 3), (.ref ob), (.int c3)])) rfl rfl (hb hby d14_17) t k)
  refine own_to (V := T101.setTop (mkF m 26 #[sR oa, sI 2, sR ob, sI 1, sI 3] [(.int 1)])) ?_ fun t k => (by
    refine XS.icmpNo X101.here hx rfl (hb hby d14_18) rfl (teq (rfl : c3 = c3)).2 ?_
    refine XS.iconst X101.here hx rfl (hb hby d14_21) ?_
    refine XS.goto X101.here hx rfl (pc0 := 22) (pc' := 26) rfl (hb hby d14_22) (by decide) (by decide) ?_
    exact k)
  exact own_retN X101 hx (t := .boolean) (w := (1 : Int32)) hret (by decide) rfl hlk (hb hby d14_26) (by rw [hh101]; exact (⟨rfl, N101, KK0⟩)) (by decide) (by decide)
def own_Qnst4_2_0 (Z : State) (ob : Addr) (kb : ClassId) (c0 c1 c2 c3 : Int32) (h0 : Heap) (n0 : Nat) (v : Option Value) (h : Heap) (L : List Loc) : Prop := (∃ (oo : Addr) (ou : Addr), v = some (.ref oo) ∧ Fr n0 L ∧ Keep h0 h [] ∧ (own_Str Z h oo ou ([] : List Int32)))
theorem own_ef_nst4_2_0 (m : MethodId) (ob : Addr)  : entryFrame m #[(.ref ob), (.int 2), (.int 0)] 3 = mkF m 0 #[sR ob, sI 2, sI 0] [] := by first | (simp [entryFrame, mkF, argsToLocals, Value.category]; done) | rfl
theorem own_rmnst4_2_0 (l : Launch) (Z : State) (a0 : Array Value) (hw : ∀ d ∈ tables_1, d.before a0 Z = true) (hst : own_St Z) (ws : List Jvm.Cond) (ob : Addr) (kb : ClassId) (c0 c1 c2 c3 : Int32) (h0 : Heap) (n0 : Nat) (X00 : Old Z n0 h0) (l0 : ¬ c0 < 0 ∧ ¬ (255 : Int32) < c0) (l1 : ¬ c1 < 0 ∧ ¬ (255 : Int32) < c1) (l2 : ¬ c2 < 0 ∧ ¬ (255 : Int32) < c2) (l3 : ¬ c3 < 0 ∧ ¬ (255 : Int32) < c3) (hA : Arv Z h0 ob kb .byte (4 : Int32) [(.int (StrChars.lo8 c0)), (.int (StrChars.lo8 c1)), (.int (StrChars.lo8 c2)), (.int (StrChars.lo8 c3))] (.int (0 : Int32))) :
    MetFree l own_mn9 (head1 (Jvm.Cond.code own_mn9 jdk_43_method_47_code 3 (Option.some (Jvm.ClassFile.FieldType.object "java/lang/String")) :: ws) (own_R 0 2 4 0)) (fun a U => a = #[(.ref ob), (.int 2), (.int 0)] ∧ Z.Warmed39 U.vm ∧ U.heap = h0 ∧ CHv Z consts_1 U.vm h0) (fun _ _ _ _ _ => True) (fun _ U o U' => ∃ v L, o = .returned v ∧ own_Qnst4_2_0 Z ob kb c0 c1 c2 c3 h0 n0 v U'.heap L ∧ CHr Z consts_1 U.vm U.heap U'.vm U'.heap ∧ ReturnedEndW U o U' L (own_R 0 2 4 0).cells (own_R 0 2 4 0).slots) := by
  refine MetFree.of_bodySF (plainFor_of_name own_pn5) hisR ?_
  intro p e s m args below meth c s₁ Bd hml0 hP hK
  obtain ⟨rfl, hZ, hh, hCH⟩ := hP
  have hx := Bd.exec
  have hby := Bd.bytes
  have hret := Bd.returns
  have hlk : meth.locks = false := BodyLoose.notSynchronized Bd
  have hml : c.maxLocals = 3 := hml0
  have hown : s.vm.findClass "java/lang/StringLatin1" = some m.cls := findClass_of_methodNamed Bd.named
  have hnm := (name_of_methodNamed Bd.named Bd.method).1
  have X0 : Stand p l e (own_R 0 2 4 0) (s.setVm s.vm) m #[(.ref ob), (.int 2), (.int 0)] below meth c s₁ [] 0 0 := Stand.of_body Bd
  have e0 : s₁.heap = h0 := by rw [← hh, Bd.state]; rfl
  have N0 := Fr.nil n0
  have KK0 : Keep h0 h0 [] := Keep.refl h0 _
  have hS0 : s.Since s.vm 0 := (State.WarmedH.refl s).since 0
  have hk0 : 0 ≤ h0.size := Nat.zero_le _
  have Ch0 : CHr Z consts_1 s.vm h0 s.vm h0 := CHr.refl hCH
  refine own_startH (own_Qnst4_2_0 Z ob kb c0 c1 c2 c3 h0 n0) ?_
  refine own_to (V := s₁.setTop (mkF m 0 #[sR ob, sI 2, sI 0] [])) ?_ (fun t k => castTop (own_ef_nst4_2_0 m ob ) k)
  obtain ⟨⟨G1, O2, P5⟩, ⟨G3, O4, rG3⟩, -⟩ := id hst
  refine own_to (V := s₁.setTop (mkF m 4 #[sR ob, sI 2, sI 0] [])) ?_ fun t k => (by
    refine XS.iloadN X0.here hx rfl (hb hby d9_0) rfl ?_
    refine XS.ifNo X0.here hx rfl (hb hby d9_1) rfl ((if0 _ _).trans (teq ((by decide) : (0 : Int32) = (0 : Int32))).2) ?_
    exact k)
  obtain ⟨s101, T101, h101, k101, t101, kb101, X101, e101, E101, hS101, hk101, hZ101, hown101, gE101, gC101, gV101, gK101, la101, lb101, hC101, hL101, hne101, st101⟩ := ldcCH X0 hx hZ hown (own_i hw 131 rfl) (own_hsa hw) e0 hS0 hk0 (own_hEL hw) (own_mem131) Ch0.1 (vs := ([] : List Value)) (z := (0 : Int32)) ⟨by decide, by decide +kernel⟩ (by decide) (by decide) (g := (mkF m 4 #[sR ob, sI 2, sI 0] [])) rfl (hb hby d9_4) (n := 0) (by decide) (by decide) (by decide) (by decide)
  have Cs101 : CHr Z consts_1 s.vm h0 T101.vm h101 := hC101
  have Ch101 := Ch0.trans Cs101
  have Xo101 := X00.ext E101
  have KK101 := KK0.ext E101
  have Fs101 : own_Str Z h101 s101 t101 ([] : List Int32) := own_mkLit gE101 gV101 gC101 gK101 (by decide) (by decide) (by decide +kernel) (by decide)
  refine own_to ?_ st101
  exact own_retRH X101 hx hS101 (own_hk e101 hk101) (by rw [e101, hh]; exact Ch101.trans (CHv.at X101 hZ101 (own_hEL hw) Ch101.1)) hret (by decide) rfl hlk (hb hby d9_6) (by rw [e101]; exact (⟨s101, t101, rfl, N0, KK101, Fs101⟩)) (by decide) (by decide)
def own_Qsub4_2_2 (Z : State) (oa ua : Addr) (c0 c1 c2 c3 : Int32) (h0 : Heap) (n0 : Nat) (v : Option Value) (h : Heap) (L : List Loc) : Prop := (∃ (oo : Addr) (ou : Addr), v = some (.ref oo) ∧ Fr n0 L ∧ Keep h0 h [] ∧ (own_Str Z h oo ou ([] : List Int32)))
theorem own_ef_sub4_2_2 (m : MethodId) (oa : Addr)  : entryFrame m #[(.ref oa), (.int 2), (.int 2)] 5 = mkF m 0 #[sR oa, sI 2, sI 2, .unset, .unset] [] := by first | (simp [entryFrame, mkF, argsToLocals, Value.category]; done) | rfl
theorem own_rmsub4_2_2 (l : Launch) (Z : State) (a0 : Array Value) (hw : ∀ d ∈ tables_1, d.before a0 Z = true) (hst : own_St Z) (ws : List Jvm.Cond) (oa ua : Addr) (c0 c1 c2 c3 : Int32) (h0 : Heap) (n0 : Nat) (X00 : Old Z n0 h0) (l0 : ¬ c0 < 0 ∧ ¬ (255 : Int32) < c0) (l1 : ¬ c1 < 0 ∧ ¬ (255 : Int32) < c1) (l2 : ¬ c2 < 0 ∧ ¬ (255 : Int32) < c2) (l3 : ¬ c3 < 0 ∧ ¬ (255 : Int32) < c3) (hS : own_Str Z h0 oa ua ([c0, c1, c2, c3] : List Int32)) :
    MetFree l own_mn10 (head1 (Jvm.Cond.code own_mn10 jdk_42_method_92_code 5 (Option.some (Jvm.ClassFile.FieldType.object "java/lang/String")) :: ws) (own_R 2 2 4 29)) (fun a U => a = #[(.ref oa), (.int 2), (.int 2)] ∧ Z.Warmed39 U.vm ∧ U.heap = h0 ∧ CHv Z consts_1 U.vm h0) (fun _ _ _ _ _ => True) (fun _ U o U' => ∃ v L, o = .returned v ∧ own_Qsub4_2_2 Z oa ua c0 c1 c2 c3 h0 n0 v U'.heap L ∧ CHr Z consts_1 U.vm U.heap U'.vm U'.heap ∧ ReturnedEndW U o U' L (own_R 2 2 4 29).cells (own_R 2 2 4 29).slots) := by
  refine MetFree.of_bodySF (plainFor_of_name own_pn2) hisR ?_
  intro p e s m args below meth c s₁ Bd hml0 hP hK
  obtain ⟨rfl, hZ, hh, hCH⟩ := hP
  have hx := Bd.exec
  have hby := Bd.bytes
  have hret := Bd.returns
  have hlk : meth.locks = false := BodyLoose.notSynchronized Bd
  have hml : c.maxLocals = 5 := hml0
  have hown : s.vm.findClass "java/lang/String" = some m.cls := findClass_of_methodNamed Bd.named
  have hnm := (name_of_methodNamed Bd.named Bd.method).1
  have X0 : Stand p l e (own_R 2 2 4 29) (s.setVm s.vm) m #[(.ref oa), (.int 2), (.int 2)] below meth c s₁ [] 0 0 := Stand.of_body Bd
  have e0 : s₁.heap = h0 := by rw [← hh, Bd.state]; rfl
  have N0 := Fr.nil n0
  have KK0 : Keep h0 h0 [] := Keep.refl h0 _
  have hS0 : s.Since s.vm 0 := (State.WarmedH.refl s).since 0
  have hk0 : 0 ≤ h0.size := Nat.zero_le _
  have Ch0 : CHr Z consts_1 s.vm h0 s.vm h0 := CHr.refl hCH
  refine own_startH (own_Qsub4_2_2 Z oa ua c0 c1 c2 c3 h0 n0) ?_
  refine own_to (V := s₁.setTop (mkF m 0 #[sR oa, sI 2, sI 2, .unset, .unset] [])) ?_ (fun t k => castTop (own_ef_sub4_2_2 m oa ) k)
  obtain ⟨⟨G1, O2, P5⟩, ⟨G3, O4, rG3⟩, -⟩ := id hst
  obtain ⟨sk101, sE101, sV101, sC101, sK101', sb101⟩ := own_Str.latinL hS (own_lat2 (own_allS l0 (own_allS l1 (own_allS l2 (own_allS l3 own_all0)))))
  have sK101 : Arv Z h0 ua sk101 .byte (4 : Int32) [(.int (StrChars.lo8 c0)), (.int (StrChars.lo8 c1)), (.int (StrChars.lo8 c2)), (.int (StrChars.lo8 c3))] (.int (0 : Int32)) := sK101'
  refine own_to (V := s₁.setTop (mkF m 1 #[sR oa, sI 2, sI 2, .unset, .unset] [(.ref oa)])) ?_ fun t k => (by
    refine XS.aloadN X0.here hx rfl (hb hby d10_0) rfl rfl ?_
    exact k)
  obtain ⟨sE103, sd103, sN103, sk103, sv103, sV103, sC103, sK103, sc103, sb103, sl103⟩ := id hS
  obtain ⟨cq102, kq102, q102a, q102b, q102c⟩ := isOf hZ e0 sE101
  obtain ⟨_, _, ⟨T102, L102, k102, n102⟩, -, X102, ⟨Lc102, hQ102, l102, y102, z102⟩, st102⟩ := X0.virtualBack hx (y := own_mn11) (z := own_mn11) hown (mvT hZ (own_i hw 66 rfl)) (mvT hZ (own_i hw 67 rfl)) (notFace_of_selects (args := #[]) (mvT hZ (own_i hw 69 rfl))) (mvT hZ (own_i hw 69 rfl)) (mvT hZ (own_i hw 68 rfl)) (by decide) (StrChars.Road.lenW (W := 0) hZ (own_hln hw) (kI := 4) (own_i hw 2 rfl) sE103 sV103 sC103 sK103 sc103 sb103 (O2.ext X00.2) P5 sl103 (by decide) (by decide)) q102a q102c (g := (mkF m 1 #[sR oa, sI 2, sI 2, .unset, .unset] [(.ref oa)])) rfl (by rw [hml]; rfl) (Steps.refl _) (argsL := []) (rest := []) (lenOf own_pd2 rfl) rfl (by show 2 * 0 + _ ≤ _; exact Nat.le_of_eq rfl) (hb hby d10_1) (fun _ _ => ⟨rfl, e0, (by decide : 0 + 0 ≤ _), (by decide : 0 + 0 ≤ _)⟩)
  dsimp only [own_R, Pt.U, Pt.locs, Pt.cells, Pt.slots] at X102 l102 y102 z102 st102 hQ102
  subst y102 z102
  obtain ⟨hv102, hL102, hh102⟩ := hQ102
  subst hL102
  have N102 : Fr n0 L102 := by rw [l102]; exact Fr.app N0 (Fr.nil n0)
  subst hv102
  refine own_to ?_ (fun t k => st102.trans k)
  refine own_to (V := T102.setTop (mkF m 8 #[sR oa, sI 2, sI 2, sI 4, .unset] [(.int 4), (.int 2), (.int 2)])) ?_ fun t k => (by
    refine XS.istoreN X102.here hx rfl (hb hby d10_4) rfl (l' := #[sR oa, sI 2, sI 2, sI 4, .unset]) rfl ?_
    refine XS.iloadN X102.here hx rfl (hb hby d10_5) rfl ?_
    refine XS.iloadN X102.here hx rfl (hb hby d10_6) rfl ?_
    refine XS.iloadN X102.here hx rfl (hb hby d10_7) rfl ?_
    exact k)
  obtain ⟨_, T104, h104, L104, Lc104, X104, e104, hQ104, l104, st104⟩ := own_cS (own_rmcbbe l Z a0 hw hst [] (2 : Int32) (2 : Int32) (4 : Int32) h0 n0 X00 (by first | assumption | decide | omega | (simp; done) | rfl) (by first | assumption | decide | omega | (simp; done) | rfl) (by first | assumption | decide | omega | (simp; done) | rfl)) X102 hx hZ hown hh102 (own_i hw 76 rfl) (own_i hw 77 rfl) (own_i hw 3 rfl) (own_i hw 78 rfl) (by decide) (g := (mkF m 8 #[sR oa, sI 2, sI 2, sI 4, .unset] [(.int 4), (.int 2), (.int 2)])) rfl (by rw [hml]; rfl) (argsL := [(.int 2), (.int 2), (.int 4)]) (rest := []) (lenOf own_pd3 rfl) rfl rfl (hb hby d10_8) (W := 0) (Nat.le_of_eq rfl) (K := 0) (N := 0) rfl rfl (by decide) (by decide) (by decide) (by decide)
  obtain ⟨hv104, N104q, K104⟩ := hQ104
  subst hv104
  have Cs104 : CHr Z consts_1 s.vm h0 s.vm h104 := CHr.keep K104 sf0 Ch0.1
  have Ch104 := Ch0.trans Cs104
  have Xo104 := X00.keep K104 all0
  have KK104 := KK0.trans K104 all0
  have N104 := l104 _ N102 N104q
  refine own_to ?_ st104
  refine own_to (V := T104.setTop (mkF m 28 #[sR oa, sI 2, sI 2, sI 4, sI 0] [(.ref oa)])) ?_ fun t k => (by
    refine XS.iloadN X104.here hx rfl (hb hby d10_11) rfl ?_
    refine XS.ifYes X104.here hx rfl (pc0 := 12) (pc' := 22) rfl (hb hby d10_12) rfl ((if0 _ _).trans (feq ((by decide) : ¬ ((2 : Int32) = (0 : Int32)))).2) (by decide) (by decide) ?_
    refine XS.iloadN X104.here hx rfl (hb hby d10_22) rfl ?_
    refine XS.iloadN X104.here hx rfl (hb hby d10_23) rfl ?_
    refine XS.isub X104.here hx rfl (hb hby d10_24) rfl ?_
    refine XS.istore X104.here hx rfl (hb hby d10_25) rfl (l' := #[sR oa, sI 2, sI 2, sI 4, sI 0]) rfl ?_
    refine XS.aloadN X104.here hx rfl (hb hby d10_27) rfl rfl ?_
    exact k)
  have F106 := (sE101.keep K104)
  have F107 := (sC101.keep K104 List.not_mem_nil)
  obtain ⟨_, T105, h105, L105, Lc105, X105, e105, hQ105, l105, st105⟩ := own_cV (own_rmisl1 l Z a0 hw hst [] oa h104 n0 Xo104 F106 F107) X104 hx hZ hown e104 F106 (own_i hw 84 rfl) (own_i hw 85 rfl) (notFace_of_selects (args := #[]) (mvT hZ (own_i hw 87 rfl))) (own_i hw 87 rfl) (own_i hw 86 rfl) (own_i hw 3 rfl) (own_i hw 88 rfl) (by decide) (g := (mkF m 28 #[sR oa, sI 2, sI 2, sI 4, sI 0] [(.ref oa)])) rfl (by rw [hml]; rfl) (argsL := []) (rest := []) (lenOf own_pd4 rfl) rfl rfl (hb hby d10_28) (W := 0) (Nat.le_of_eq rfl) (K := 0) (N := 0) rfl rfl (by decide) (by decide) (by decide) (by decide)
  obtain ⟨hv105, N105q, K105⟩ := hQ105
  subst hv105
  have Cs105 : CHr Z consts_1 s.vm h104 s.vm h105 := CHr.keep K105 sf0 Ch104.1
  have Ch105 := Ch104.trans Cs105
  have Xo105 := Xo104.keep K105 all0
  have KK105 := KK104.trans K105 all0
  have N105 := l105 _ N104 N105q
  refine own_to ?_ st105
  refine own_to (V := T105.setTop (mkF m 35 #[sR oa, sI 2, sI 2, sI 4, sI 0] [(.ref oa)])) ?_ fun t k => (by
    refine XS.ifNo X105.here hx rfl (hb hby d10_31) rfl ((if0 _ _).trans (feq ((by decide) : ¬ ((1 : Int32) = (0 : Int32)))).1) ?_
    refine XS.aloadN X105.here hx rfl (hb hby d10_34) rfl rfl ?_
    exact k)
  have F108 := ((sV101.keep K104 List.not_mem_nil).keep K105 List.not_mem_nil)
  obtain ⟨T109, X109, e109, st109⟩ := getF X105 hx hZ hown (host := "") (Or.inl (own_i hw 28 rfl)) Via.refl e105 F108 (g := (mkF m 35 #[sR oa, sI 2, sI 2, sI 4, sI 0] [(.ref oa)])) rfl rfl (hb hby d10_35)
  refine own_to ?_ st109
  refine own_to (V := T109.setTop (mkF m 41 #[sR oa, sI 2, sI 2, sI 4, sI 0] [(.int 0), (.int 2), (.ref ua)])) ?_ fun t k => (by
    refine XS.iloadN X109.here hx rfl (hb hby d10_38) rfl ?_
    refine XS.iload X109.here hx rfl (hb hby d10_39) rfl ?_
    exact k)
  have F111 := ((sK101.keep K104 List.not_mem_nil).keep K105 List.not_mem_nil)
  obtain ⟨_, _, ⟨T110, L110, k110, n110⟩, -, X110', hS110', hg110, ⟨Lc110, hQ110, l110, y110, z110, hC110'⟩, st110⟩ := callSS X109 hx (y := own_mn9) hown (mvT hZ (own_i hw 89 rfl)) (mvT hZ (own_i hw 90 rfl)) (mvT hZ (own_i hw 91 rfl)) (mvT hZ (own_i hw 92 rfl)) (by decide) (backOfSH (W := 0) (own_rmnst4_2_0 l Z a0 hw hst [] ua sk101 c0 c1 c2 c3 h105 n0 Xo105 l0 l1 l2 l3 F111) hZ (own_i hw 92 rfl) (own_i hw 91 rfl) (by decide) (by decide) (own_hEL hw) Ch105.1) (g := (mkF m 41 #[sR oa, sI 2, sI 2, sI 4, sI 0] [(.int 0), (.int 2), (.ref ua)])) rfl (by rw [hml]; rfl) (argsL := [(.ref ua), (.int 2), (.int 0)]) (rest := []) (lenOf own_pd5 rfl) rfl (by show 2 * 0 + _ ≤ _; exact Nat.le_of_eq rfl) (hb hby d10_41) (fun _ _ => ⟨rfl, e109, (by decide : 0 + 2 ≤ _), (by decide : 0 + 4 ≤ _)⟩)
  dsimp only [own_R, Pt.U, Pt.locs, Pt.cells, Pt.slots] at X110' hS110' hg110 l110 y110 z110 st110 hQ110 hC110'
  subst y110 z110
  obtain ⟨X110, hS110, hZ110, hown110⟩ := rebS hS0 (own_hk e109 (Nat.le_trans (Nat.le_trans hk0 K104.1) K105.1)) X110' hS110' hg110 hZ hown
  obtain ⟨oo110, ou110, hv110, N110q, K110, g110_0⟩ := hQ110
  subst hv110
  obtain ⟨h110, e110⟩ : ∃ z, T110.heap = z := ⟨_, rfl⟩
  rw [e110] at K110 g110_0 hC110'
  have Cs110 : CHr Z consts_1 s.vm h105 T110.vm h110 := hC110'
  have Ch110 := Ch105.trans Cs110
  have Xo110 := Xo105.keep K110 all0
  have KK110 := KK105.trans K110 all0
  have hk110 : T110.heap.size ≤ h110.size := by rw [e110]; exact Nat.le_refl _
  have N110 : Fr n0 L110 := by rw [l110]; exact Fr.app N105 N110q
  refine own_to ?_ (fun t k => st110.trans k)
  refine own_to (V := T110.setTop (mkF m 57 #[sR oa, sI 2, sI 2, sI 4, sI 0] [(.ref oo110)])) ?_ fun t k => (by
    refine XS.goto X110.here hx rfl (pc0 := 44) (pc' := 57) rfl (hb hby d10_44) (by decide) (by decide) ?_
    exact k)
  exact own_retRH X110 hx hS110 (own_hk e110 hk110) (by rw [e110, hh]; exact Ch110.trans (CHv.at X110 hZ110 (own_hEL hw) Ch110.1)) hret (by decide) rfl hlk (hb hby d10_57) (by rw [e110]; exact (⟨oo110, ou110, rfl, N110, KK110, g110_0⟩)) (by decide) (by decide)
def own_Qtos22 (Z : State) (ow oa ua : Addr) (c0 c1 c2 c3 : Int32) (h0 : Heap) (n0 : Nat) (v : Option Value) (h : Heap) (L : List Loc) : Prop := (∃ (oo : Addr) (ou : Addr), v = some (.ref oo) ∧ Fr n0 L ∧ Keep h0 h [] ∧ (own_Str Z h oo ou ([] : List Int32)))
theorem own_ef_tos22 (m : MethodId) (ow : Addr)  : entryFrame m #[(.ref ow)] 1 = mkF m 0 #[sR ow] [] := by first | (simp [entryFrame, mkF, argsToLocals, Value.category]; done) | rfl
theorem own_rmtos22 (l : Launch) (Z : State) (a0 : Array Value) (hw : ∀ d ∈ tables_1, d.before a0 Z = true) (hst : own_St Z) (ws : List Jvm.Cond) (ow oa ua : Addr) (c0 c1 c2 c3 : Int32) (h0 : Heap) (n0 : Nat) (X00 : Old Z n0 h0) (l0 : ¬ c0 < 0 ∧ ¬ (255 : Int32) < c0) (l1 : ¬ c1 < 0 ∧ ¬ (255 : Int32) < c1) (l2 : ¬ c2 < 0 ∧ ¬ (255 : Int32) < c2) (l3 : ¬ c3 < 0 ∧ ¬ (255 : Int32) < c3) (hE : Exa Z h0 ow nm1) (f1 : Fld Z h0 ow nm1 "text" nm2 (.ref oa)) (f2 : Fld Z h0 ow nm1 "start" "I" (.int 2)) (f3 : Fld Z h0 ow nm1 "end" "I" (.int 2)) (hS : own_Str Z h0 oa ua ([c0, c1, c2, c3] : List Int32)) :
    MetFree l own_mn12 (head1 (Jvm.Cond.code own_mn12 prog_77_method_5_code 1 (Option.some (Jvm.ClassFile.FieldType.object "java/lang/String")) :: ws) (own_R 3 2 4 45)) (fun a U => a = #[(.ref ow)] ∧ Z.Warmed39 U.vm ∧ U.heap = h0 ∧ CHv Z consts_1 U.vm h0) (fun _ _ _ _ _ => True) (fun _ U o U' => ∃ v L, o = .returned v ∧ own_Qtos22 Z ow oa ua c0 c1 c2 c3 h0 n0 v U'.heap L ∧ CHr Z consts_1 U.vm U.heap U'.vm U'.heap ∧ ReturnedEndW U o U' L (own_R 3 2 4 45).cells (own_R 3 2 4 45).slots) := by
  refine MetFree.of_bodySF (plainFor_of_name own_pn4) hisR ?_
  intro p e s m args below meth c s₁ Bd hml0 hP hK
  obtain ⟨rfl, hZ, hh, hCH⟩ := hP
  have hx := Bd.exec
  have hby := Bd.bytes
  have hret := Bd.returns
  have hlk : meth.locks = false := BodyLoose.notSynchronized Bd
  have hml : c.maxLocals = 1 := hml0
  have hown : s.vm.findClass "com/example/capstrike/capstrike/TermText$Written" = some m.cls := findClass_of_methodNamed Bd.named
  have hnm := (name_of_methodNamed Bd.named Bd.method).1
  have X0 : Stand p l e (own_R 3 2 4 45) (s.setVm s.vm) m #[(.ref ow)] below meth c s₁ [] 0 0 := Stand.of_body Bd
  have e0 : s₁.heap = h0 := by rw [← hh, Bd.state]; rfl
  have N0 := Fr.nil n0
  have KK0 : Keep h0 h0 [] := Keep.refl h0 _
  have hS0 : s.Since s.vm 0 := (State.WarmedH.refl s).since 0
  have hk0 : 0 ≤ h0.size := Nat.zero_le _
  have Ch0 : CHr Z consts_1 s.vm h0 s.vm h0 := CHr.refl hCH
  refine own_startH (own_Qtos22 Z ow oa ua c0 c1 c2 c3 h0 n0) ?_
  refine own_to (V := s₁.setTop (mkF m 0 #[sR ow] [])) ?_ (fun t k => castTop (own_ef_tos22 m ow ) k)
  obtain ⟨⟨G1, O2, P5⟩, ⟨G3, O4, rG3⟩, -⟩ := id hst
  refine own_to (V := s₁.setTop (mkF m 1 #[sR ow] [(.ref ow)])) ?_ fun t k => (by
    refine XS.aloadN X0.here hx rfl (hb hby d11_0) rfl rfl ?_
    exact k)
  obtain ⟨T101, X101, e101, st101⟩ := getF X0 hx hZ hown (host := "") (Or.inl (own_i hw 50 rfl)) Via.refl e0 f1 (g := (mkF m 1 #[sR ow] [(.ref ow)])) rfl rfl (hb hby d11_1)
  refine own_to ?_ st101
  refine own_to (V := T101.setTop (mkF m 5 #[sR ow] [(.ref ow), (.ref oa)])) ?_ fun t k => (by
    refine XS.aloadN X101.here hx rfl (hb hby d11_4) rfl rfl ?_
    exact k)
  obtain ⟨T102, X102, e102, st102⟩ := getF X101 hx hZ hown (host := "") (Or.inl (own_i hw 52 rfl)) Via.refl e101 f2 (g := (mkF m 5 #[sR ow] [(.ref ow), (.ref oa)])) rfl rfl (hb hby d11_5)
  refine own_to ?_ st102
  refine own_to (V := T102.setTop (mkF m 9 #[sR ow] [(.ref ow), (.int 2), (.ref oa)])) ?_ fun t k => (by
    refine XS.aloadN X102.here hx rfl (hb hby d11_8) rfl rfl ?_
    exact k)
  obtain ⟨T103, X103, e103, st103⟩ := getF X102 hx hZ hown (host := "") (Or.inl (own_i hw 54 rfl)) Via.refl e102 f3 (g := (mkF m 9 #[sR ow] [(.ref ow), (.int 2), (.ref oa)])) rfl rfl (hb hby d11_9)
  refine own_to ?_ st103
  obtain ⟨cq104, kq104, q104a, q104b, q104c⟩ := isOf hZ e103 hS.1
  obtain ⟨_, _, ⟨T104, L104, k104, n104⟩, -, X104', hS104', hg104, ⟨Lc104, hQ104, l104, y104, z104, hC104'⟩, st104⟩ := X103.virtualBackS hx (y := own_mn10) (z := own_mn10) hown (mvT hZ (own_i hw 61 rfl)) (mvT hZ (own_i hw 62 rfl)) (notFace_of_selects (args := #[]) (mvT hZ (own_i hw 64 rfl))) (mvT hZ (own_i hw 64 rfl)) (mvT hZ (own_i hw 63 rfl)) (by decide) (backOfSH (W := 0) (own_rmsub4_2_2 l Z a0 hw hst [] oa ua c0 c1 c2 c3 h0 n0 X00 l0 l1 l2 l3 hS) hZ (own_i hw 65 rfl) (own_i hw 3 rfl) (by decide) (by decide) (own_hEL hw) Ch0.1) q104a q104c (g := (mkF m 12 #[sR ow] [(.int 2), (.int 2), (.ref oa)])) rfl (by rw [hml]; rfl) (Steps.refl _) (argsL := [(.int 2), (.int 2)]) (rest := []) (lenOf own_pd6 rfl) rfl (by show 2 * 0 + _ ≤ _; exact Nat.le_of_eq rfl) (hb hby d11_12) (fun _ _ => ⟨rfl, e103, (by decide : 0 + 2 ≤ _), (by decide : 0 + 4 ≤ _)⟩)
  dsimp only [own_R, Pt.U, Pt.locs, Pt.cells, Pt.slots] at X104' hS104' hg104 l104 y104 z104 st104 hQ104 hC104'
  subst y104 z104
  obtain ⟨X104, hS104, hZ104, hown104⟩ := rebS hS0 (own_hk e103 hk0) X104' hS104' hg104 hZ hown
  obtain ⟨oo104, ou104, hv104, N104q, K104, g104_0⟩ := hQ104
  subst hv104
  obtain ⟨h104, e104⟩ : ∃ z, T104.heap = z := ⟨_, rfl⟩
  rw [e104] at K104 g104_0 hC104'
  have Cs104 : CHr Z consts_1 s.vm h0 T104.vm h104 := hC104'
  have Ch104 := Ch0.trans Cs104
  have Xo104 := X00.keep K104 all0
  have KK104 := KK0.trans K104 all0
  have hk104 : T104.heap.size ≤ h104.size := by rw [e104]; exact Nat.le_refl _
  have N104 : Fr n0 L104 := by rw [l104]; exact Fr.app N0 N104q
  refine own_to ?_ (fun t k => st104.trans k)
  exact own_retRH X104 hx hS104 (own_hk e104 hk104) (by rw [e104, hh]; exact Ch104.trans (CHv.at X104 hZ104 (own_hEL hw) Ch104.1)) hret (by decide) rfl hlk (hb hby d11_15) (by rw [e104]; exact (⟨oo104, ou104, rfl, N104, KK104, g104_0⟩)) (by decide) (by decide)
def own_Qcrb4_2_3 (Z : State) (ob : Addr) (kb : ClassId) (d0 d1 d2 d3 : Int32) (h0 : Heap) (n0 : Nat) (v : Option Value) (h : Heap) (L : List Loc) : Prop := (∃ (oo : Addr) (ko : ClassId), v = some (.ref oo) ∧ Fr n0 L ∧ Keep h0 h [] ∧ (Arv Z h oo ko .byte (1 : Int32) [(.int d2)] (.int (0 : Int32))) ∧ (h0.size ≤ oo))
theorem own_ef_crb4_2_3 (m : MethodId) (ob : Addr)  : entryFrame m #[(.ref ob), (.int 2), (.int 3)] 5 = mkF m 0 #[sR ob, sI 2, sI 3, .unset, .unset] [] := by first | (simp [entryFrame, mkF, argsToLocals, Value.category]; done) | rfl
theorem own_rmcrb4_2_3 (l : Launch) (Z : State) (a0 : Array Value) (hw : ∀ d ∈ tables_1, d.before a0 Z = true) (hst : own_St Z) (ws : List Jvm.Cond) (ob : Addr) (kb : ClassId) (d0 d1 d2 d3 : Int32) (h0 : Heap) (n0 : Nat) (X00 : Old Z n0 h0) (hA : Arv Z h0 ob kb .byte (4 : Int32) [(.int d0), (.int d1), (.int d2), (.int d3)] (.int (0 : Int32))) :
    own_MF l own_mn13 jdk_65_method_133_code 5 (Option.some (Jvm.ClassFile.FieldType.array Jvm.ClassFile.FieldType.byte)) ws (own_R 1 1 1 18) #[(.ref ob), (.int 2), (.int 3)] Z h0 (own_Qcrb4_2_3 Z ob kb d0 d1 d2 d3 h0 n0) := by
  refine own_body (plainFor_of_name own_pn0) (fun m => own_ef_crb4_2_3 m ob ) ?_
  intro p e s m below meth c s₁ hx hby hret hlk hml hZ hown hnm hh X0 e0
  have N0 := Fr.nil n0
  have KK0 : Keep h0 h0 [] := Keep.refl h0 _
  obtain ⟨⟨G1, O2, P5⟩, ⟨G3, O4, rG3⟩, -⟩ := id hst
  refine own_to (V := s₁.setTop (mkF m 2 #[sR ob, sI 2, sI 3, .unset, .unset] [(.int 3), (.int 2)])) ?_ fun t k => (by
    refine XS.iloadN X0.here hx rfl (hb hby d12_0) rfl ?_
    refine XS.iloadN X0.here hx rfl (hb hby d12_1) rfl ?_
    exact k)
  obtain ⟨_, T101, h101, L101, Lc101, X101, e101, hQ101, l101, st101⟩ := own_cS (own_rmckl l Z a0 hw hst [] (2 : Int32) (3 : Int32) h0 n0 X00 (by first | assumption | decide | omega | (simp; done) | rfl)) X0 hx hZ hown e0 (own_i hw 101 rfl) (own_i hw 102 rfl) (own_i hw 96 rfl) (own_i hw 103 rfl) (by decide) (g := (mkF m 2 #[sR ob, sI 2, sI 3, .unset, .unset] [(.int 3), (.int 2)])) rfl (by rw [hml]; rfl) (argsL := [(.int 2), (.int 3)]) (rest := []) (lenOf own_pd7 rfl) rfl rfl (hb hby d12_2) (W := 0) (Nat.le_of_eq rfl) (K := 0) (N := 0) rfl rfl (by decide) (by decide) (by decide) (by decide)
  obtain ⟨hv101, N101q, K101⟩ := hQ101
  subst hv101
  have Xo101 := X00.keep K101 all0
  have KK101 := KK0.trans K101 all0
  have N101 := l101 _ N0 N101q
  refine own_to ?_ st101
  refine own_to (V := T101.setTop (mkF m 10 #[sR ob, sI 2, sI 3, sI 1, .unset] [(.int 1)])) ?_ fun t k => (by
    refine XS.iloadN X101.here hx rfl (hb hby d12_5) rfl ?_
    refine XS.iloadN X101.here hx rfl (hb hby d12_6) rfl ?_
    refine XS.isub X101.here hx rfl (hb hby d12_7) rfl ?_
    refine XS.istoreN X101.here hx rfl (hb hby d12_8) rfl (l' := #[sR ob, sI 2, sI 3, sI 1, .unset]) rfl ?_
    refine XS.iloadN X101.here hx rfl (hb hby d12_9) rfl ?_
    exact k)
  obtain ⟨T102, h102, k102, X102, e102, E102, A102, st102⟩ := newP X101 hx hZ (own_i hw 19 rfl) e101 (g := (mkF m 10 #[sR ob, sI 2, sI 3, sI 1, .unset] [(.int 1)])) rfl (hb hby d12_10) rfl (by decide) (cap := 1) (by decide) (by decide) (by decide) (by decide)
  obtain ⟨b102, g102⟩ : ∃ z, z = h101.size := ⟨_, rfl⟩
  rw [← g102] at A102 st102
  have Xo102 := Xo101.ext E102
  have KK102 := KK101.ext E102
  have ge_b102 := Nat.le_trans (own_ole Xo101) (Nat.le_of_eq g102.symm)
  have sz_b102 := Nat.le_trans KK101.1 (Nat.le_of_eq g102.symm)
  have V102 : Arv Z h102 b102 k102 .byte (1 : Int32) [(.int 0)] (.int (0 : Int32)) := (Arv.new A102 (by decide)).pad (pad_rep [] (.int (0 : Int32)) 1)
  refine own_to ?_ st102
  refine own_to (V := T102.setTop (mkF m 20 #[sR ob, sI 2, sI 3, sI 1, sR b102] [(.ref ob), (.int 0), (.ref b102), (.int 2), (.ref ob)])) ?_ fun t k => (by
    refine XS.astore X102.here hx rfl (hb hby d12_12) rfl rfl (l' := #[sR ob, sI 2, sI 3, sI 1, sR b102]) rfl ?_
    refine XS.aloadN X102.here hx rfl (hb hby d12_14) rfl rfl ?_
    refine XS.iloadN X102.here hx rfl (hb hby d12_15) rfl ?_
    refine XS.aload X102.here hx rfl (hb hby d12_16) rfl rfl ?_
    refine XS.iconst X102.here hx rfl (hb hby d12_18) ?_
    refine XS.aloadN X102.here hx rfl (hb hby d12_19) rfl rfl ?_
    exact k)
  have F103 := ((hA.keep K101 List.not_mem_nil).ext E102)
  obtain ⟨cl104, Ar104, q104, S104, M104, H104, G104⟩ := id F103
  refine own_to (V := T102.setTop (mkF m 21 #[sR ob, sI 2, sI 3, sI 1, sR b102] [(.int 4), (.int 0), (.ref b102), (.int 2), (.ref ob)])) ?_ (fun t k => X102.arraylength hx (by rw [e102]; exact Ar104.1) (State.isArrayOf_alike hZ.alike Ar104.2.1) (g := (mkF m 20 #[sR ob, sI 2, sI 3, sI 1, sR b102] [(.ref ob), (.int 0), (.ref b102), (.int 2), (.ref ob)])) rfl rfl (hb hby d12_20) t (by rw [len_of S104 M104]; exact k))
  refine own_to (V := T102.setTop (mkF m 24 #[sR ob, sI 2, sI 3, sI 1, sR b102] [(.int 1), (.int 2), (.int 0), (.ref b102), (.int 2), (.ref ob)])) ?_ fun t k => (by
    refine XS.iloadN X102.here hx rfl (hb hby d12_21) rfl ?_
    refine XS.isub X102.here hx rfl (hb hby d12_22) rfl ?_
    refine XS.iloadN X102.here hx rfl (hb hby d12_23) rfl ?_
    exact k)
  obtain ⟨_, T105, h105, L105, Lc105, X105, e105, hQ105, l105, st105⟩ := own_cS (own_rmmamin l Z a0 hw hst [] (2 : Int32) (1 : Int32) h102 n0 Xo102 ) X102 hx hZ hown e102 (own_i hw 104 rfl) (own_i hw 32 rfl) (own_i hw 33 rfl) (own_i hw 34 rfl) (by decide) (g := (mkF m 24 #[sR ob, sI 2, sI 3, sI 1, sR b102] [(.int 1), (.int 2), (.int 0), (.ref b102), (.int 2), (.ref ob)])) rfl (by rw [hml]; rfl) (argsL := [(.int 2), (.int 1)]) (rest := [(.int 0), (.ref b102), (.int 2), (.ref ob)]) (lenOf own_pd8 rfl) rfl rfl (hb hby d12_24) (W := 4) (Nat.le_of_eq rfl) (K := 1) (N := 1) rfl rfl (by decide) (by decide) (by decide) (by decide)
  rcases hQ105 with ⟨hv105, N105q, K105, g105_0⟩ | ⟨hv105, N105q, K105, g105_0⟩
  ·skip
   subst hv105
   have Xo105 := Xo102.keep K105 all0
   have KK105 := KK102.trans K105 all0
   have N105 := l105 _ N101 N105q
   exact absurd (by decide) g105_0
  ·skip
   subst hv105
   have Xo105 := Xo102.keep K105 all0
   have KK105 := KK102.trans K105 all0
   have N105 := l105 _ N101 N105q
   refine own_to ?_ st105
   have F107 := (F103.keep K105 List.not_mem_nil)
   have F108 := (V102.keep K105 List.not_mem_nil)
   obtain ⟨T106, h106, L106, X106, e106, N106, K106, V106', st106⟩ := cpA X105 hx hZ hown (own_i hw 105 rfl) (own_i hw 108 rfl) (own_i hw 106 rfl) (own_i hw 107 rfl) e105 (sp := (2 : Int32)) (dp := (0 : Int32)) (nn := (1 : Int32)) (us := [(.int d2)]) F107 F108 (Or.inl ⟨rfl, rfl⟩) (by decide) (by decide) (by decide) (by decide) (by decide) rfl (Nat.le_of_ble_eq_true rfl) N105 ge_b102 (g := (mkF m 27 #[sR ob, sI 2, sI 3, sI 1, sR b102] [(.int 1), (.int 0), (.ref b102), (.int 2), (.ref ob)])) rfl (by rw [hml]; rfl) (rest := []) rfl (hb hby d12_27) (by decide) (W := 0) (by show 2 * 0 + _ ≤ _; exact Nat.le_of_eq rfl) (by decide)
   have Xo106 := Xo105.keep K106 (allS ge_b102 all0)
   have KK106 := KK105.trans K106 (allS (Or.inr sz_b102) all0)
   have V106 : Arv Z h106 b102 k102 .byte (1 : Int32) [(.int d2)] (.int (0 : Int32)) := V106'
   refine own_to ?_ st106
   refine own_to (V := T106.setTop (mkF m 32 #[sR ob, sI 2, sI 3, sI 1, sR b102] [(.ref b102)])) ?_ fun t k => (by
     refine XS.aload X106.here hx rfl (hb hby d12_30) rfl rfl ?_
     exact k)
   exact own_retR X106 hx hret (by decide) rfl hlk (hb hby d12_32) (by rw [e106]; exact (⟨b102, k102, rfl, N106, KK106, V106, sz_b102⟩)) (by decide) (by decide)
def own_Qcor4_2_3 (Z : State) (ob : Addr) (kb : ClassId) (d0 d1 d2 d3 : Int32) (h0 : Heap) (n0 : Nat) (v : Option Value) (h : Heap) (L : List Loc) : Prop := (∃ (oo : Addr) (ko : ClassId), v = some (.ref oo) ∧ Fr n0 L ∧ Keep h0 h [] ∧ (Arv Z h oo ko .byte (1 : Int32) [(.int d2)] (.int (0 : Int32))) ∧ (h0.size ≤ oo))
theorem own_ef_cor4_2_3 (m : MethodId) (ob : Addr)  : entryFrame m #[(.ref ob), (.int 2), (.int 3)] 3 = mkF m 0 #[sR ob, sI 2, sI 3] [] := by first | (simp [entryFrame, mkF, argsToLocals, Value.category]; done) | rfl
theorem own_rmcor4_2_3 (l : Launch) (Z : State) (a0 : Array Value) (hw : ∀ d ∈ tables_1, d.before a0 Z = true) (hst : own_St Z) (ws : List Jvm.Cond) (ob : Addr) (kb : ClassId) (d0 d1 d2 d3 : Int32) (h0 : Heap) (n0 : Nat) (X00 : Old Z n0 h0) (hA : Arv Z h0 ob kb .byte (4 : Int32) [(.int d0), (.int d1), (.int d2), (.int d3)] (.int (0 : Int32))) :
    own_MF l own_mn14 jdk_65_method_132_code 3 (Option.some (Jvm.ClassFile.FieldType.array Jvm.ClassFile.FieldType.byte)) ws (own_R 2 1 1 34) #[(.ref ob), (.int 2), (.int 3)] Z h0 (own_Qcor4_2_3 Z ob kb d0 d1 d2 d3 h0 n0) := by
  refine own_body (plainFor_of_name own_pn0) (fun m => own_ef_cor4_2_3 m ob ) ?_
  intro p e s m below meth c s₁ hx hby hret hlk hml hZ hown hnm hh X0 e0
  have N0 := Fr.nil n0
  have KK0 : Keep h0 h0 [] := Keep.refl h0 _
  obtain ⟨⟨G1, O2, P5⟩, ⟨G3, O4, rG3⟩, -⟩ := id hst
  refine own_to (V := s₁.setTop (mkF m 13 #[sR ob, sI 2, sI 3] [(.int 3), (.int 2), (.ref ob)])) ?_ fun t k => (by
    refine XS.iloadN X0.here hx rfl (hb hby d13_0) rfl ?_
    refine XS.ifYes X0.here hx rfl (pc0 := 1) (pc' := 10) rfl (hb hby d13_1) rfl ((if0 _ _).trans (feq ((by decide) : ¬ ((2 : Int32) = (0 : Int32)))).2) (by decide) (by decide) ?_
    refine XS.aloadN X0.here hx rfl (hb hby d13_10) rfl rfl ?_
    refine XS.iloadN X0.here hx rfl (hb hby d13_11) rfl ?_
    refine XS.iloadN X0.here hx rfl (hb hby d13_12) rfl ?_
    exact k)
  obtain ⟨_, T101, h101, L101, Lc101, X101, e101, hQ101, l101, st101⟩ := own_cS (own_rmcrb4_2_3 l Z a0 hw hst [] ob kb d0 d1 d2 d3 h0 n0 X00 hA) X0 hx hZ hown e0 (own_i hw 98 rfl) (own_i hw 99 rfl) (own_i hw 96 rfl) (own_i hw 100 rfl) (by decide) (g := (mkF m 13 #[sR ob, sI 2, sI 3] [(.int 3), (.int 2), (.ref ob)])) rfl (by rw [hml]; rfl) (argsL := [(.ref ob), (.int 2), (.int 3)]) (rest := []) (lenOf own_pd9 rfl) rfl rfl (hb hby d13_13) (W := 0) (Nat.le_of_eq rfl) (K := 1) (N := 1) rfl rfl (by decide) (by decide) (by decide) (by decide)
  obtain ⟨oo101, ko101, hv101, N101q, K101, g101_0, g101_1⟩ := hQ101
  subst hv101
  have Xo101 := X00.keep K101 all0
  have KK101 := KK0.trans K101 all0
  have N101 := l101 _ N0 N101q
  have ge_oo101 := Nat.le_trans (own_ole X00) g101_1
  have sz_oo101 := Nat.le_trans KK0.1 g101_1
  refine own_to ?_ st101
  exact own_retR X101 hx hret (by decide) rfl hlk (hb hby d13_16) (by rw [e101]; exact (⟨oo101, ko101, rfl, N101, KK101, g101_0, sz_oo101⟩)) (by decide) (by decide)
def own_Qnst4_2_1 (Z : State) (ob : Addr) (kb : ClassId) (c0 c1 c2 c3 : Int32) (h0 : Heap) (n0 : Nat) (v : Option Value) (h : Heap) (L : List Loc) : Prop := (∃ (oo : Addr) (ou : Addr), v = some (.ref oo) ∧ Fr n0 L ∧ Keep h0 h [] ∧ (own_Str Z h oo ou ([c2] : List Int32)))
theorem own_ef_nst4_2_1 (m : MethodId) (ob : Addr)  : entryFrame m #[(.ref ob), (.int 2), (.int 1)] 3 = mkF m 0 #[sR ob, sI 2, sI 1] [] := by first | (simp [entryFrame, mkF, argsToLocals, Value.category]; done) | rfl
theorem own_rmnst4_2_1 (l : Launch) (Z : State) (a0 : Array Value) (hw : ∀ d ∈ tables_1, d.before a0 Z = true) (hst : own_St Z) (ws : List Jvm.Cond) (ob : Addr) (kb : ClassId) (c0 c1 c2 c3 : Int32) (h0 : Heap) (n0 : Nat) (X00 : Old Z n0 h0) (l0 : ¬ c0 < 0 ∧ ¬ (255 : Int32) < c0) (l1 : ¬ c1 < 0 ∧ ¬ (255 : Int32) < c1) (l2 : ¬ c2 < 0 ∧ ¬ (255 : Int32) < c2) (l3 : ¬ c3 < 0 ∧ ¬ (255 : Int32) < c3) (hA : Arv Z h0 ob kb .byte (4 : Int32) [(.int (StrChars.lo8 c0)), (.int (StrChars.lo8 c1)), (.int (StrChars.lo8 c2)), (.int (StrChars.lo8 c3))] (.int (0 : Int32))) :
    own_MF l own_mn9 jdk_43_method_47_code 3 (Option.some (Jvm.ClassFile.FieldType.object "java/lang/String")) ws (own_R 3 2 5 50) #[(.ref ob), (.int 2), (.int 1)] Z h0 (own_Qnst4_2_1 Z ob kb c0 c1 c2 c3 h0 n0) := by
  refine own_body (plainFor_of_name own_pn5) (fun m => own_ef_nst4_2_1 m ob ) ?_
  intro p e s m below meth c s₁ hx hby hret hlk hml hZ hown hnm hh X0 e0
  have N0 := Fr.nil n0
  have KK0 : Keep h0 h0 [] := Keep.refl h0 _
  obtain ⟨⟨G1, O2, P5⟩, ⟨G3, O4, rG3⟩, -⟩ := id hst
  refine own_to (V := s₁.setTop (mkF m 7 #[sR ob, sI 2, sI 1] [])) ?_ fun t k => (by
    refine XS.iloadN X0.here hx rfl (hb hby d9_0) rfl ?_
    refine XS.ifYes X0.here hx rfl (pc0 := 1) (pc' := 7) rfl (hb hby d9_1) rfl ((if0 _ _).trans (feq ((by decide) : ¬ ((1 : Int32) = (0 : Int32)))).2) (by decide) (by decide) ?_
    exact k)
  obtain ⟨T101, h101, X101, e101, E101, A101, D101, U101, st101⟩ := newO X0 hx hZ hown (own_i hw 93 rfl) (own_i hw 2 rfl) (own_i hw 3 rfl) e0 (g := (mkF m 7 #[sR ob, sI 2, sI 1] [])) rfl (hb hby d9_7) (by decide) (by decide)
  obtain ⟨b101, g101⟩ : ∃ z, z = h0.size := ⟨_, rfl⟩
  rw [← g101] at A101 D101 U101 st101
  have Xo101 := X00.ext E101
  have KK101 := KK0.ext E101
  have ge_b101 := Nat.le_trans (own_ole X00) (Nat.le_of_eq g101.symm)
  have sz_b101 := Nat.le_trans KK0.1 (Nat.le_of_eq g101.symm)
  have Fi101_27 : Fld Z h101 b101 nm0 "coder" "B" (.int 0) := D101 (Or.inr (own_i hw 27 rfl)) (ty := .byte) (by decide)
  have Fi101_29 : Fld Z h101 b101 nm0 "value" "[B" .null := D101 (Or.inr (own_i hw 29 rfl)) (ty := (.array .byte)) (by decide)
  refine own_to ?_ st101
  refine own_to (V := T101.setTop (mkF m 16 #[sR ob, sI 2, sI 1] [(.int 3), (.int 2), (.ref ob), (.ref b101), (.ref b101)])) ?_ fun t k => (by
    refine XS.dup X101.here hx rfl (hb hby d9_10) rfl rfl ?_
    refine XS.aloadN X101.here hx rfl (hb hby d9_11) rfl rfl ?_
    refine XS.iloadN X101.here hx rfl (hb hby d9_12) rfl ?_
    refine XS.iloadN X101.here hx rfl (hb hby d9_13) rfl ?_
    refine XS.iloadN X101.here hx rfl (hb hby d9_14) rfl ?_
    refine XS.iadd X101.here hx rfl (hb hby d9_15) rfl ?_
    exact k)
  have F103 := (hA.ext E101)
  obtain ⟨_, T102, h102, L102, Lc102, X102, e102, hQ102, l102, st102⟩ := own_cS (own_rmcor4_2_3 l Z a0 hw hst [] ob kb (StrChars.lo8 c0) (StrChars.lo8 c1) (StrChars.lo8 c2) (StrChars.lo8 c3) h101 n0 Xo101 F103) X101 hx hZ hown e101 (own_i hw 94 rfl) (own_i hw 95 rfl) (own_i hw 96 rfl) (own_i hw 97 rfl) (by decide) (g := (mkF m 16 #[sR ob, sI 2, sI 1] [(.int 3), (.int 2), (.ref ob), (.ref b101), (.ref b101)])) rfl (by rw [hml]; rfl) (argsL := [(.ref ob), (.int 2), (.int 3)]) (rest := [(.ref b101), (.ref b101)]) (lenOf own_pd9 rfl) rfl rfl (hb hby d9_16) (W := 2) (Nat.le_of_eq rfl) (K := 2) (N := 5) rfl rfl (by decide) (by decide) (by decide) (by decide)
  obtain ⟨oo102, ko102, hv102, N102q, K102, g102_0, g102_1⟩ := hQ102
  subst hv102
  have Xo102 := Xo101.keep K102 all0
  have KK102 := KK101.trans K102 all0
  have N102 := l102 _ N0 N102q
  have ge_oo102 := Nat.le_trans (own_ole Xo101) g102_1
  have sz_oo102 := Nat.le_trans KK101.1 g102_1
  refine own_to ?_ st102
  refine own_to (V := T102.setTop (mkF m 20 #[sR ob, sI 2, sI 1] [(.int 0), (.ref oo102), (.ref b101), (.ref b101)])) ?_ fun t k => (by
    refine XS.iconst X102.here hx rfl (hb hby d9_19) ?_
    exact k)
  have F105 := (A101.keep K102)
  have F106 := (Fi101_29.keep K102 List.not_mem_nil)
  have F107 := (Fi101_27.keep K102 List.not_mem_nil)
  obtain ⟨_, T104, h104, L104, Lc104, X104, e104, hQ104, l104, st104⟩ := own_cI (own_rmsibb l Z a0 hw hst [] b101 oo102 h102 n0 Xo102 F105 F106 F107 ge_b101) X102 hx hZ hown e102 rfl (own_i hw 109 rfl) (own_i hw 110 rfl) (own_i hw 3 rfl) (own_i hw 111 rfl) (by decide) (g := (mkF m 20 #[sR ob, sI 2, sI 1] [(.int 0), (.ref oo102), (.ref b101), (.ref b101)])) rfl (by rw [hml]; rfl) (argsL := [(.ref oo102), (.int 0)]) (rest := [(.ref b101)]) (lenOf own_pd10 rfl) rfl rfl (hb hby d9_20) (W := 1) (Nat.le_of_eq rfl) (K := 2) (N := 5) rfl rfl (by decide) (by decide) (by decide) (by decide)
  obtain ⟨hv104, N104q, K104, g104_0, g104_1⟩ := hQ104
  subst hv104
  have Xo104 := Xo102.keep K104 (allS ge_b101 all0)
  have KK104 := KK102.trans K104 (allS (Or.inr sz_b101) all0)
  have N104 := l104 _ N102 N104q
  refine own_to ?_ st104
  have F109 := (F105.keep K104)
  have F110 := (g102_0.keep K104 (own_nmS (Ne.symm (Nat.ne_of_lt (Nat.lt_of_lt_of_le A101.lt g102_1))) own_nm0))
  have Fz108 : own_Str Z h104 b101 oo102 ([c2] : List Int32) := own_mkLit F109 g104_0 g104_1 F110 rfl (own_allS l2 own_all0) rfl (Nat.le_of_ble_eq_true rfl)
  exact own_retR X104 hx hret (by decide) rfl hlk (hb hby d9_23) (by rw [e104]; exact (⟨b101, oo102, rfl, N104, KK104, Fz108⟩)) (by decide) (by decide)
def own_Qsub4_2_3 (Z : State) (oa ua : Addr) (c0 c1 c2 c3 : Int32) (h0 : Heap) (n0 : Nat) (v : Option Value) (h : Heap) (L : List Loc) : Prop := (∃ (oo : Addr) (ou : Addr), v = some (.ref oo) ∧ Fr n0 L ∧ Keep h0 h [] ∧ (own_Str Z h oo ou ([c2] : List Int32)))
theorem own_ef_sub4_2_3 (m : MethodId) (oa : Addr)  : entryFrame m #[(.ref oa), (.int 2), (.int 3)] 5 = mkF m 0 #[sR oa, sI 2, sI 3, .unset, .unset] [] := by first | (simp [entryFrame, mkF, argsToLocals, Value.category]; done) | rfl
theorem own_rmsub4_2_3 (l : Launch) (Z : State) (a0 : Array Value) (hw : ∀ d ∈ tables_1, d.before a0 Z = true) (hst : own_St Z) (ws : List Jvm.Cond) (oa ua : Addr) (c0 c1 c2 c3 : Int32) (h0 : Heap) (n0 : Nat) (X00 : Old Z n0 h0) (l0 : ¬ c0 < 0 ∧ ¬ (255 : Int32) < c0) (l1 : ¬ c1 < 0 ∧ ¬ (255 : Int32) < c1) (l2 : ¬ c2 < 0 ∧ ¬ (255 : Int32) < c2) (l3 : ¬ c3 < 0 ∧ ¬ (255 : Int32) < c3) (hS : own_Str Z h0 oa ua ([c0, c1, c2, c3] : List Int32)) :
    own_MF l own_mn10 jdk_42_method_92_code 5 (Option.some (Jvm.ClassFile.FieldType.object "java/lang/String")) ws (own_R 4 2 5 64) #[(.ref oa), (.int 2), (.int 3)] Z h0 (own_Qsub4_2_3 Z oa ua c0 c1 c2 c3 h0 n0) := by
  refine own_body (plainFor_of_name own_pn2) (fun m => own_ef_sub4_2_3 m oa ) ?_
  intro p e s m below meth c s₁ hx hby hret hlk hml hZ hown hnm hh X0 e0
  have N0 := Fr.nil n0
  have KK0 : Keep h0 h0 [] := Keep.refl h0 _
  obtain ⟨⟨G1, O2, P5⟩, ⟨G3, O4, rG3⟩, -⟩ := id hst
  obtain ⟨sk101, sE101, sV101, sC101, sK101', sb101⟩ := own_Str.latinL hS (own_lat2 (own_allS l0 (own_allS l1 (own_allS l2 (own_allS l3 own_all0)))))
  have sK101 : Arv Z h0 ua sk101 .byte (4 : Int32) [(.int (StrChars.lo8 c0)), (.int (StrChars.lo8 c1)), (.int (StrChars.lo8 c2)), (.int (StrChars.lo8 c3))] (.int (0 : Int32)) := sK101'
  refine own_to (V := s₁.setTop (mkF m 1 #[sR oa, sI 2, sI 3, .unset, .unset] [(.ref oa)])) ?_ fun t k => (by
    refine XS.aloadN X0.here hx rfl (hb hby d10_0) rfl rfl ?_
    exact k)
  obtain ⟨sE103, sd103, sN103, sk103, sv103, sV103, sC103, sK103, sc103, sb103, sl103⟩ := id hS
  obtain ⟨cq102, kq102, q102a, q102b, q102c⟩ := isOf hZ e0 sE101
  obtain ⟨_, _, ⟨T102, L102, k102, n102⟩, -, X102, ⟨Lc102, hQ102, l102, y102, z102⟩, st102⟩ := X0.virtualBack hx (y := own_mn11) (z := own_mn11) hown (mvT hZ (own_i hw 66 rfl)) (mvT hZ (own_i hw 67 rfl)) (notFace_of_selects (args := #[]) (mvT hZ (own_i hw 69 rfl))) (mvT hZ (own_i hw 69 rfl)) (mvT hZ (own_i hw 68 rfl)) (by decide) (StrChars.Road.lenW (W := 0) hZ (own_hln hw) (kI := 4) (own_i hw 2 rfl) sE103 sV103 sC103 sK103 sc103 sb103 (O2.ext X00.2) P5 sl103 (by decide) (by decide)) q102a q102c (g := (mkF m 1 #[sR oa, sI 2, sI 3, .unset, .unset] [(.ref oa)])) rfl (by rw [hml]; rfl) (Steps.refl _) (argsL := []) (rest := []) (lenOf own_pd2 rfl) rfl (by show 2 * 0 + _ ≤ _; exact Nat.le_of_eq rfl) (hb hby d10_1) (fun _ _ => ⟨rfl, e0, (by decide : 0 + 0 ≤ _), (by decide : 0 + 0 ≤ _)⟩)
  dsimp only [own_R, Pt.U, Pt.locs, Pt.cells, Pt.slots] at X102 l102 y102 z102 st102 hQ102
  subst y102 z102
  obtain ⟨hv102, hL102, hh102⟩ := hQ102
  subst hL102
  have N102 : Fr n0 L102 := by rw [l102]; exact Fr.app N0 (Fr.nil n0)
  subst hv102
  refine own_to ?_ (fun t k => st102.trans k)
  refine own_to (V := T102.setTop (mkF m 8 #[sR oa, sI 2, sI 3, sI 4, .unset] [(.int 4), (.int 3), (.int 2)])) ?_ fun t k => (by
    refine XS.istoreN X102.here hx rfl (hb hby d10_4) rfl (l' := #[sR oa, sI 2, sI 3, sI 4, .unset]) rfl ?_
    refine XS.iloadN X102.here hx rfl (hb hby d10_5) rfl ?_
    refine XS.iloadN X102.here hx rfl (hb hby d10_6) rfl ?_
    refine XS.iloadN X102.here hx rfl (hb hby d10_7) rfl ?_
    exact k)
  obtain ⟨_, T104, h104, L104, Lc104, X104, e104, hQ104, l104, st104⟩ := own_cS (own_rmcbbe l Z a0 hw hst [] (2 : Int32) (3 : Int32) (4 : Int32) h0 n0 X00 (by first | assumption | decide | omega | (simp; done) | rfl) (by first | assumption | decide | omega | (simp; done) | rfl) (by first | assumption | decide | omega | (simp; done) | rfl)) X102 hx hZ hown hh102 (own_i hw 76 rfl) (own_i hw 77 rfl) (own_i hw 3 rfl) (own_i hw 78 rfl) (by decide) (g := (mkF m 8 #[sR oa, sI 2, sI 3, sI 4, .unset] [(.int 4), (.int 3), (.int 2)])) rfl (by rw [hml]; rfl) (argsL := [(.int 2), (.int 3), (.int 4)]) (rest := []) (lenOf own_pd3 rfl) rfl rfl (hb hby d10_8) (W := 0) (Nat.le_of_eq rfl) (K := 0) (N := 0) rfl rfl (by decide) (by decide) (by decide) (by decide)
  obtain ⟨hv104, N104q, K104⟩ := hQ104
  subst hv104
  have Xo104 := X00.keep K104 all0
  have KK104 := KK0.trans K104 all0
  have N104 := l104 _ N102 N104q
  refine own_to ?_ st104
  refine own_to (V := T104.setTop (mkF m 28 #[sR oa, sI 2, sI 3, sI 4, sI 1] [(.ref oa)])) ?_ fun t k => (by
    refine XS.iloadN X104.here hx rfl (hb hby d10_11) rfl ?_
    refine XS.ifYes X104.here hx rfl (pc0 := 12) (pc' := 22) rfl (hb hby d10_12) rfl ((if0 _ _).trans (feq ((by decide) : ¬ ((2 : Int32) = (0 : Int32)))).2) (by decide) (by decide) ?_
    refine XS.iloadN X104.here hx rfl (hb hby d10_22) rfl ?_
    refine XS.iloadN X104.here hx rfl (hb hby d10_23) rfl ?_
    refine XS.isub X104.here hx rfl (hb hby d10_24) rfl ?_
    refine XS.istore X104.here hx rfl (hb hby d10_25) rfl (l' := #[sR oa, sI 2, sI 3, sI 4, sI 1]) rfl ?_
    refine XS.aloadN X104.here hx rfl (hb hby d10_27) rfl rfl ?_
    exact k)
  have F106 := (sE101.keep K104)
  have F107 := (sC101.keep K104 List.not_mem_nil)
  obtain ⟨_, T105, h105, L105, Lc105, X105, e105, hQ105, l105, st105⟩ := own_cV (own_rmisl1 l Z a0 hw hst [] oa h104 n0 Xo104 F106 F107) X104 hx hZ hown e104 F106 (own_i hw 84 rfl) (own_i hw 85 rfl) (notFace_of_selects (args := #[]) (mvT hZ (own_i hw 87 rfl))) (own_i hw 87 rfl) (own_i hw 86 rfl) (own_i hw 3 rfl) (own_i hw 88 rfl) (by decide) (g := (mkF m 28 #[sR oa, sI 2, sI 3, sI 4, sI 1] [(.ref oa)])) rfl (by rw [hml]; rfl) (argsL := []) (rest := []) (lenOf own_pd4 rfl) rfl rfl (hb hby d10_28) (W := 0) (Nat.le_of_eq rfl) (K := 0) (N := 0) rfl rfl (by decide) (by decide) (by decide) (by decide)
  obtain ⟨hv105, N105q, K105⟩ := hQ105
  subst hv105
  have Xo105 := Xo104.keep K105 all0
  have KK105 := KK104.trans K105 all0
  have N105 := l105 _ N104 N105q
  refine own_to ?_ st105
  refine own_to (V := T105.setTop (mkF m 35 #[sR oa, sI 2, sI 3, sI 4, sI 1] [(.ref oa)])) ?_ fun t k => (by
    refine XS.ifNo X105.here hx rfl (hb hby d10_31) rfl ((if0 _ _).trans (feq ((by decide) : ¬ ((1 : Int32) = (0 : Int32)))).1) ?_
    refine XS.aloadN X105.here hx rfl (hb hby d10_34) rfl rfl ?_
    exact k)
  have F108 := ((sV101.keep K104 List.not_mem_nil).keep K105 List.not_mem_nil)
  obtain ⟨T109, X109, e109, st109⟩ := getF X105 hx hZ hown (host := "") (Or.inl (own_i hw 28 rfl)) Via.refl e105 F108 (g := (mkF m 35 #[sR oa, sI 2, sI 3, sI 4, sI 1] [(.ref oa)])) rfl rfl (hb hby d10_35)
  refine own_to ?_ st109
  refine own_to (V := T109.setTop (mkF m 41 #[sR oa, sI 2, sI 3, sI 4, sI 1] [(.int 1), (.int 2), (.ref ua)])) ?_ fun t k => (by
    refine XS.iloadN X109.here hx rfl (hb hby d10_38) rfl ?_
    refine XS.iload X109.here hx rfl (hb hby d10_39) rfl ?_
    exact k)
  have F111 := ((sK101.keep K104 List.not_mem_nil).keep K105 List.not_mem_nil)
  obtain ⟨_, T110, h110, L110, Lc110, X110, e110, hQ110, l110, st110⟩ := own_cS (own_rmnst4_2_1 l Z a0 hw hst [] ua sk101 c0 c1 c2 c3 h105 n0 Xo105 l0 l1 l2 l3 F111) X109 hx hZ hown e109 (own_i hw 89 rfl) (own_i hw 90 rfl) (own_i hw 91 rfl) (own_i hw 92 rfl) (by decide) (g := (mkF m 41 #[sR oa, sI 2, sI 3, sI 4, sI 1] [(.int 1), (.int 2), (.ref ua)])) rfl (by rw [hml]; rfl) (argsL := [(.ref ua), (.int 2), (.int 1)]) (rest := []) (lenOf own_pd5 rfl) rfl rfl (hb hby d10_41) (W := 0) (Nat.le_of_eq rfl) (K := 2) (N := 5) rfl rfl (by decide) (by decide) (by decide) (by decide)
  obtain ⟨oo110, ou110, hv110, N110q, K110, g110_0⟩ := hQ110
  subst hv110
  have Xo110 := Xo105.keep K110 all0
  have KK110 := KK105.trans K110 all0
  have N110 := l110 _ N105 N110q
  refine own_to ?_ st110
  refine own_to (V := T110.setTop (mkF m 57 #[sR oa, sI 2, sI 3, sI 4, sI 1] [(.ref oo110)])) ?_ fun t k => (by
    refine XS.goto X110.here hx rfl (pc0 := 44) (pc' := 57) rfl (hb hby d10_44) (by decide) (by decide) ?_
    exact k)
  exact own_retR X110 hx hret (by decide) rfl hlk (hb hby d10_57) (by rw [e110]; exact (⟨oo110, ou110, rfl, N110, KK110, g110_0⟩)) (by decide) (by decide)
def own_Qtos23 (Z : State) (ow oa ua : Addr) (c0 c1 c2 c3 : Int32) (h0 : Heap) (n0 : Nat) (v : Option Value) (h : Heap) (L : List Loc) : Prop := (∃ (oo : Addr) (ou : Addr), v = some (.ref oo) ∧ Fr n0 L ∧ Keep h0 h [] ∧ (own_Str Z h oo ou ([c2] : List Int32)))
theorem own_ef_tos23 (m : MethodId) (ow : Addr)  : entryFrame m #[(.ref ow)] 1 = mkF m 0 #[sR ow] [] := by first | (simp [entryFrame, mkF, argsToLocals, Value.category]; done) | rfl
theorem own_rmtos23 (l : Launch) (Z : State) (a0 : Array Value) (hw : ∀ d ∈ tables_1, d.before a0 Z = true) (hst : own_St Z) (ws : List Jvm.Cond) (ow oa ua : Addr) (c0 c1 c2 c3 : Int32) (h0 : Heap) (n0 : Nat) (X00 : Old Z n0 h0) (l0 : ¬ c0 < 0 ∧ ¬ (255 : Int32) < c0) (l1 : ¬ c1 < 0 ∧ ¬ (255 : Int32) < c1) (l2 : ¬ c2 < 0 ∧ ¬ (255 : Int32) < c2) (l3 : ¬ c3 < 0 ∧ ¬ (255 : Int32) < c3) (hE : Exa Z h0 ow nm1) (f1 : Fld Z h0 ow nm1 "text" nm2 (.ref oa)) (f2 : Fld Z h0 ow nm1 "start" "I" (.int 2)) (f3 : Fld Z h0 ow nm1 "end" "I" (.int 3)) (hS : own_Str Z h0 oa ua ([c0, c1, c2, c3] : List Int32)) :
    own_MF l own_mn12 prog_77_method_5_code 1 (Option.some (Jvm.ClassFile.FieldType.object "java/lang/String")) ws (own_R 5 2 5 80) #[(.ref ow)] Z h0 (own_Qtos23 Z ow oa ua c0 c1 c2 c3 h0 n0) := by
  refine own_body (plainFor_of_name own_pn4) (fun m => own_ef_tos23 m ow ) ?_
  intro p e s m below meth c s₁ hx hby hret hlk hml hZ hown hnm hh X0 e0
  have N0 := Fr.nil n0
  have KK0 : Keep h0 h0 [] := Keep.refl h0 _
  obtain ⟨⟨G1, O2, P5⟩, ⟨G3, O4, rG3⟩, -⟩ := id hst
  refine own_to (V := s₁.setTop (mkF m 1 #[sR ow] [(.ref ow)])) ?_ fun t k => (by
    refine XS.aloadN X0.here hx rfl (hb hby d11_0) rfl rfl ?_
    exact k)
  obtain ⟨T101, X101, e101, st101⟩ := getF X0 hx hZ hown (host := "") (Or.inl (own_i hw 50 rfl)) Via.refl e0 f1 (g := (mkF m 1 #[sR ow] [(.ref ow)])) rfl rfl (hb hby d11_1)
  refine own_to ?_ st101
  refine own_to (V := T101.setTop (mkF m 5 #[sR ow] [(.ref ow), (.ref oa)])) ?_ fun t k => (by
    refine XS.aloadN X101.here hx rfl (hb hby d11_4) rfl rfl ?_
    exact k)
  obtain ⟨T102, X102, e102, st102⟩ := getF X101 hx hZ hown (host := "") (Or.inl (own_i hw 52 rfl)) Via.refl e101 f2 (g := (mkF m 5 #[sR ow] [(.ref ow), (.ref oa)])) rfl rfl (hb hby d11_5)
  refine own_to ?_ st102
  refine own_to (V := T102.setTop (mkF m 9 #[sR ow] [(.ref ow), (.int 2), (.ref oa)])) ?_ fun t k => (by
    refine XS.aloadN X102.here hx rfl (hb hby d11_8) rfl rfl ?_
    exact k)
  obtain ⟨T103, X103, e103, st103⟩ := getF X102 hx hZ hown (host := "") (Or.inl (own_i hw 54 rfl)) Via.refl e102 f3 (g := (mkF m 9 #[sR ow] [(.ref ow), (.int 2), (.ref oa)])) rfl rfl (hb hby d11_9)
  refine own_to ?_ st103
  obtain ⟨_, T104, h104, L104, Lc104, X104, e104, hQ104, l104, st104⟩ := own_cV (own_rmsub4_2_3 l Z a0 hw hst [] oa ua c0 c1 c2 c3 h0 n0 X00 l0 l1 l2 l3 hS) X103 hx hZ hown e103 hS.1 (own_i hw 61 rfl) (own_i hw 62 rfl) (notFace_of_selects (args := #[]) (mvT hZ (own_i hw 64 rfl))) (own_i hw 64 rfl) (own_i hw 63 rfl) (own_i hw 3 rfl) (own_i hw 65 rfl) (by decide) (g := (mkF m 12 #[sR ow] [(.int 3), (.int 2), (.ref oa)])) rfl (by rw [hml]; rfl) (argsL := [(.int 2), (.int 3)]) (rest := []) (lenOf own_pd6 rfl) rfl rfl (hb hby d11_12) (W := 0) (Nat.le_of_eq rfl) (K := 2) (N := 5) rfl rfl (by decide) (by decide) (by decide) (by decide)
  obtain ⟨oo104, ou104, hv104, N104q, K104, g104_0⟩ := hQ104
  subst hv104
  have Xo104 := X00.keep K104 all0
  have KK104 := KK0.trans K104 all0
  have N104 := l104 _ N0 N104q
  refine own_to ?_ st104
  exact own_retR X104 hx hret (by decide) rfl hlk (hb hby d11_15) (by rw [e104]; exact (⟨oo104, ou104, rfl, N104, KK104, g104_0⟩)) (by decide) (by decide)
def own_Qsm120 (Z : State) (oa ua ob : Addr) (kb : ClassId) (c0 c1 c2 c3 : Int32) (h0 : Heap) (n0 : Nat) (v : Option Value) (h : Heap) (L : List Loc) : Prop := (v = some (.int 1) ∧ Fr n0 L ∧ Keep h0 h [])
theorem own_ef_sm120 (m : MethodId) (oa : Addr) (ob : Addr)  : entryFrame m #[(.ref oa), (.int 0), (.ref ob), (.int 2), (.int 1)] 5 = mkF m 0 #[sR oa, sI 0, sR ob, sI 2, sI 1] [] := by first | (simp [entryFrame, mkF, argsToLocals, Value.category]; done) | rfl
theorem own_rmsm120 (l : Launch) (Z : State) (a0 : Array Value) (hw : ∀ d ∈ tables_1, d.before a0 Z = true) (hst : own_St Z) (ws : List Jvm.Cond) (oa ua ob : Addr) (kb : ClassId) (c0 c1 c2 c3 : Int32) (h0 : Heap) (n0 : Nat) (X00 : Old Z n0 h0) (l0 : ¬ c0 < 0 ∧ ¬ (255 : Int32) < c0) (l1 : ¬ c1 < 0 ∧ ¬ (255 : Int32) < c1) (l2 : ¬ c2 < 0 ∧ ¬ (255 : Int32) < c2) (l3 : ¬ c3 < 0 ∧ ¬ (255 : Int32) < c3) (hS : own_Str Z h0 oa ua ([c2] : List Int32)) (hA : Arv Z h0 ob kb .char (4 : Int32) [(.int c0), (.int c1), (.int c2), (.int c3)] (.int (0 : Int32))) :
    own_MF l own_mn15 method_2_code 5 (Option.some Jvm.ClassFile.FieldType.boolean) ws (own_R 4 0 0 53) #[(.ref oa), (.int 0), (.ref ob), (.int 2), (.int 1)] Z h0 (own_Qsm120 Z oa ua ob kb c0 c1 c2 c3 h0 n0) := by
  refine own_body (plainFor_of_name own_pn6) (fun m => own_ef_sm120 m oa ob ) ?_
  intro p e s m below meth c s₁ hx hby hret hlk hml hZ hown hnm hh X0 e0
  have N0 := Fr.nil n0
  have KK0 : Keep h0 h0 [] := Keep.refl h0 _
  obtain ⟨⟨G1, O2, P5⟩, ⟨G3, O4, rG3⟩, -⟩ := id hst
  refine own_to (V := s₁.setTop (mkF m 10 #[sR oa, sI 0, sR ob, sI 2, sI 1] [(.int 0), (.ref oa)])) ?_ fun t k => (by
    refine XS.iloadN X0.here hx rfl (hb hby d14_0) rfl ?_
    refine XS.iload X0.here hx rfl (hb hby d14_1) rfl ?_
    refine XS.icmpYes X0.here hx rfl (pc0 := 3) (pc' := 8) rfl (hb hby d14_3) rfl (tlt ((by decide) : (0 : Int32) < (1 : Int32))).1 (by decide) (by decide) ?_
    refine XS.aloadN X0.here hx rfl (hb hby d14_8) rfl rfl ?_
    refine XS.iloadN X0.here hx rfl (hb hby d14_9) rfl ?_
    exact k)
  obtain ⟨sN102, sk102, sv102, sE102, sV102, sC102, sK102, sc102, sb102, sl102⟩ := own_Str.latin hS (own_lat2 (own_allS l2 own_all0))
  obtain ⟨cq101, kq101, q101a, q101b, q101c⟩ := isOf hZ e0 hS.1
  obtain ⟨_, _, ⟨T101, L101, k101, n101⟩, -, X101, ⟨Lc101, hQ101, l101, y101, z101⟩, st101⟩ := X0.virtualBack hx (y := own_mn16) (z := own_mn16) hown (mvT hZ (own_i hw 117 rfl)) (mvT hZ (own_i hw 118 rfl)) (notFace_of_selects (args := #[]) (mvT hZ (own_i hw 120 rfl))) (mvT hZ (own_i hw 120 rfl)) (mvT hZ (own_i hw 119 rfl)) (by decide) (StrChars.Road.chN (W := 0) hZ (own_hch hw) (kI := 4) (own_i hw 2 rfl) sE102 sV102 sC102 sK102 sc102 sb102 (O2.ext X00.2) P5 (O4.ext X00.2) rG3 sl102 (i := 0) (Nat.le_of_ble_eq_true rfl) (j := (0 : Int32)) rfl (by decide) (by decide)) q101a q101c (g := (mkF m 10 #[sR oa, sI 0, sR ob, sI 2, sI 1] [(.int 0), (.ref oa)])) rfl (by rw [hml]; rfl) (Steps.refl _) (argsL := [(.int 0)]) (rest := []) (lenOf own_pd11 rfl) rfl (by show 2 * 0 + _ ≤ _; exact Nat.le_of_eq rfl) (hb hby d14_10) (fun _ _ => ⟨rfl, e0, (by decide : 0 + 0 ≤ _), (by decide : 0 + 0 ≤ _)⟩)
  dsimp only [own_R, Pt.U, Pt.locs, Pt.cells, Pt.slots] at X101 l101 y101 z101 st101 hQ101
  subst y101 z101
  obtain ⟨hv101, hL101, hh101⟩ := hQ101
  subst hL101
  have N101 : Fr n0 L101 := by rw [l101]; exact Fr.app N0 (Fr.nil n0)
  subst hv101
  refine own_to ?_ (fun t k => st101.trans k)
  refine own_to (V := T101.setTop (mkF m 17 #[sR oa, sI 0, sR ob, sI 2, sI 1] [(.int 2), (.ref ob), (.int c2)])) ?_ fun t k => (by
    refine XS.aloadN X101.here hx rfl (hb hby d14_13) rfl rfl ?_
    refine XS.iloadN X101.here hx rfl (hb hby d14_14) rfl ?_
    refine XS.iloadN X101.here hx rfl (hb hby d14_15) rfl ?_
    refine XS.iadd X101.here hx rfl (hb hby d14_16) rfl ?_
    exact k)
  obtain ⟨cl103, Ar103, q103, S103, M103, H103, G103⟩ := id hA
  have hin103 : ¬ ((2 : Int32) < 0 ∨ cl103.slots.size ≤ ((2 : Int32)).toNatClampNeg) := inb_of S103 ⟨by decide, by decide⟩
  refine own_to (V := T101.setTop (mkF m 18 #[sR oa, sI 0, sR ob, sI 2, sI 1] [(.int c2), (.int c2)])) ?_ (fun t k => X101.caload hx (j := (2 : Int32)) (v := (.int c2)) (by rw [hh101]; exact Ar103.1) (State.isArrayOf_alike hZ.alike Ar103.2.1) Ar103.2.2 hin103 (Has.at H103 hin103 rfl) (g := (mkF m 17 #[sR oa, sI 0, sR ob, sI 2, sI 1] [(.int 2), (.ref ob), (.int c2)])) rfl rfl (hb hby d14_17) t k)
  refine own_to (V := T101.setTop (mkF m 26 #[sR oa, sI 0, sR ob, sI 2, sI 1] [(.int 1)])) ?_ fun t k => (by
    refine XS.icmpNo X101.here hx rfl (hb hby d14_18) rfl (teq (rfl : c2 = c2)).2 ?_
    refine XS.iconst X101.here hx rfl (hb hby d14_21) ?_
    refine XS.goto X101.here hx rfl (pc0 := 22) (pc' := 26) rfl (hb hby d14_22) (by decide) (by decide) ?_
    exact k)
  exact own_retN X101 hx (t := .boolean) (w := (1 : Int32)) hret (by decide) rfl hlk (hb hby d14_26) (by rw [hh101]; exact (⟨rfl, N101, KK0⟩)) (by decide) (by decide)
def own_Qcrb4_2_4 (Z : State) (ob : Addr) (kb : ClassId) (d0 d1 d2 d3 : Int32) (h0 : Heap) (n0 : Nat) (v : Option Value) (h : Heap) (L : List Loc) : Prop := (∃ (oo : Addr) (ko : ClassId), v = some (.ref oo) ∧ Fr n0 L ∧ Keep h0 h [] ∧ (Arv Z h oo ko .byte (2 : Int32) [(.int d2), (.int d3)] (.int (0 : Int32))) ∧ (h0.size ≤ oo))
theorem own_ef_crb4_2_4 (m : MethodId) (ob : Addr)  : entryFrame m #[(.ref ob), (.int 2), (.int 4)] 5 = mkF m 0 #[sR ob, sI 2, sI 4, .unset, .unset] [] := by first | (simp [entryFrame, mkF, argsToLocals, Value.category]; done) | rfl
theorem own_rmcrb4_2_4 (l : Launch) (Z : State) (a0 : Array Value) (hw : ∀ d ∈ tables_1, d.before a0 Z = true) (hst : own_St Z) (ws : List Jvm.Cond) (ob : Addr) (kb : ClassId) (d0 d1 d2 d3 : Int32) (h0 : Heap) (n0 : Nat) (X00 : Old Z n0 h0) (hA : Arv Z h0 ob kb .byte (4 : Int32) [(.int d0), (.int d1), (.int d2), (.int d3)] (.int (0 : Int32))) :
    own_MF l own_mn13 jdk_65_method_133_code 5 (Option.some (Jvm.ClassFile.FieldType.array Jvm.ClassFile.FieldType.byte)) ws (own_R 1 1 2 18) #[(.ref ob), (.int 2), (.int 4)] Z h0 (own_Qcrb4_2_4 Z ob kb d0 d1 d2 d3 h0 n0) := by
  refine own_body (plainFor_of_name own_pn0) (fun m => own_ef_crb4_2_4 m ob ) ?_
  intro p e s m below meth c s₁ hx hby hret hlk hml hZ hown hnm hh X0 e0
  have N0 := Fr.nil n0
  have KK0 : Keep h0 h0 [] := Keep.refl h0 _
  obtain ⟨⟨G1, O2, P5⟩, ⟨G3, O4, rG3⟩, -⟩ := id hst
  refine own_to (V := s₁.setTop (mkF m 2 #[sR ob, sI 2, sI 4, .unset, .unset] [(.int 4), (.int 2)])) ?_ fun t k => (by
    refine XS.iloadN X0.here hx rfl (hb hby d12_0) rfl ?_
    refine XS.iloadN X0.here hx rfl (hb hby d12_1) rfl ?_
    exact k)
  obtain ⟨_, T101, h101, L101, Lc101, X101, e101, hQ101, l101, st101⟩ := own_cS (own_rmckl l Z a0 hw hst [] (2 : Int32) (4 : Int32) h0 n0 X00 (by first | assumption | decide | omega | (simp; done) | rfl)) X0 hx hZ hown e0 (own_i hw 101 rfl) (own_i hw 102 rfl) (own_i hw 96 rfl) (own_i hw 103 rfl) (by decide) (g := (mkF m 2 #[sR ob, sI 2, sI 4, .unset, .unset] [(.int 4), (.int 2)])) rfl (by rw [hml]; rfl) (argsL := [(.int 2), (.int 4)]) (rest := []) (lenOf own_pd7 rfl) rfl rfl (hb hby d12_2) (W := 0) (Nat.le_of_eq rfl) (K := 0) (N := 0) rfl rfl (by decide) (by decide) (by decide) (by decide)
  obtain ⟨hv101, N101q, K101⟩ := hQ101
  subst hv101
  have Xo101 := X00.keep K101 all0
  have KK101 := KK0.trans K101 all0
  have N101 := l101 _ N0 N101q
  refine own_to ?_ st101
  refine own_to (V := T101.setTop (mkF m 10 #[sR ob, sI 2, sI 4, sI 2, .unset] [(.int 2)])) ?_ fun t k => (by
    refine XS.iloadN X101.here hx rfl (hb hby d12_5) rfl ?_
    refine XS.iloadN X101.here hx rfl (hb hby d12_6) rfl ?_
    refine XS.isub X101.here hx rfl (hb hby d12_7) rfl ?_
    refine XS.istoreN X101.here hx rfl (hb hby d12_8) rfl (l' := #[sR ob, sI 2, sI 4, sI 2, .unset]) rfl ?_
    refine XS.iloadN X101.here hx rfl (hb hby d12_9) rfl ?_
    exact k)
  obtain ⟨T102, h102, k102, X102, e102, E102, A102, st102⟩ := newP X101 hx hZ (own_i hw 19 rfl) e101 (g := (mkF m 10 #[sR ob, sI 2, sI 4, sI 2, .unset] [(.int 2)])) rfl (hb hby d12_10) rfl (by decide) (cap := 2) (by decide) (by decide) (by decide) (by decide)
  obtain ⟨b102, g102⟩ : ∃ z, z = h101.size := ⟨_, rfl⟩
  rw [← g102] at A102 st102
  have Xo102 := Xo101.ext E102
  have KK102 := KK101.ext E102
  have ge_b102 := Nat.le_trans (own_ole Xo101) (Nat.le_of_eq g102.symm)
  have sz_b102 := Nat.le_trans KK101.1 (Nat.le_of_eq g102.symm)
  have V102 : Arv Z h102 b102 k102 .byte (2 : Int32) [(.int 0), (.int 0)] (.int (0 : Int32)) := (Arv.new A102 (by decide)).pad (pad_rep [] (.int (0 : Int32)) 2)
  refine own_to ?_ st102
  refine own_to (V := T102.setTop (mkF m 20 #[sR ob, sI 2, sI 4, sI 2, sR b102] [(.ref ob), (.int 0), (.ref b102), (.int 2), (.ref ob)])) ?_ fun t k => (by
    refine XS.astore X102.here hx rfl (hb hby d12_12) rfl rfl (l' := #[sR ob, sI 2, sI 4, sI 2, sR b102]) rfl ?_
    refine XS.aloadN X102.here hx rfl (hb hby d12_14) rfl rfl ?_
    refine XS.iloadN X102.here hx rfl (hb hby d12_15) rfl ?_
    refine XS.aload X102.here hx rfl (hb hby d12_16) rfl rfl ?_
    refine XS.iconst X102.here hx rfl (hb hby d12_18) ?_
    refine XS.aloadN X102.here hx rfl (hb hby d12_19) rfl rfl ?_
    exact k)
  have F103 := ((hA.keep K101 List.not_mem_nil).ext E102)
  obtain ⟨cl104, Ar104, q104, S104, M104, H104, G104⟩ := id F103
  refine own_to (V := T102.setTop (mkF m 21 #[sR ob, sI 2, sI 4, sI 2, sR b102] [(.int 4), (.int 0), (.ref b102), (.int 2), (.ref ob)])) ?_ (fun t k => X102.arraylength hx (by rw [e102]; exact Ar104.1) (State.isArrayOf_alike hZ.alike Ar104.2.1) (g := (mkF m 20 #[sR ob, sI 2, sI 4, sI 2, sR b102] [(.ref ob), (.int 0), (.ref b102), (.int 2), (.ref ob)])) rfl rfl (hb hby d12_20) t (by rw [len_of S104 M104]; exact k))
  refine own_to (V := T102.setTop (mkF m 24 #[sR ob, sI 2, sI 4, sI 2, sR b102] [(.int 2), (.int 2), (.int 0), (.ref b102), (.int 2), (.ref ob)])) ?_ fun t k => (by
    refine XS.iloadN X102.here hx rfl (hb hby d12_21) rfl ?_
    refine XS.isub X102.here hx rfl (hb hby d12_22) rfl ?_
    refine XS.iloadN X102.here hx rfl (hb hby d12_23) rfl ?_
    exact k)
  obtain ⟨_, T105, h105, L105, Lc105, X105, e105, hQ105, l105, st105⟩ := own_cS (own_rmmamin l Z a0 hw hst [] (2 : Int32) (2 : Int32) h102 n0 Xo102 ) X102 hx hZ hown e102 (own_i hw 104 rfl) (own_i hw 32 rfl) (own_i hw 33 rfl) (own_i hw 34 rfl) (by decide) (g := (mkF m 24 #[sR ob, sI 2, sI 4, sI 2, sR b102] [(.int 2), (.int 2), (.int 0), (.ref b102), (.int 2), (.ref ob)])) rfl (by rw [hml]; rfl) (argsL := [(.int 2), (.int 2)]) (rest := [(.int 0), (.ref b102), (.int 2), (.ref ob)]) (lenOf own_pd8 rfl) rfl rfl (hb hby d12_24) (W := 4) (Nat.le_of_eq rfl) (K := 1) (N := 2) rfl rfl (by decide) (by decide) (by decide) (by decide)
  rcases hQ105 with ⟨hv105, N105q, K105, g105_0⟩ | ⟨hv105, N105q, K105, g105_0⟩
  ·skip
   subst hv105
   have Xo105 := Xo102.keep K105 all0
   have KK105 := KK102.trans K105 all0
   have N105 := l105 _ N101 N105q
   refine own_to ?_ st105
   have F107 := (F103.keep K105 List.not_mem_nil)
   have F108 := (V102.keep K105 List.not_mem_nil)
   obtain ⟨T106, h106, L106, X106, e106, N106, K106, V106', st106⟩ := cpA X105 hx hZ hown (own_i hw 105 rfl) (own_i hw 108 rfl) (own_i hw 106 rfl) (own_i hw 107 rfl) e105 (sp := (2 : Int32)) (dp := (0 : Int32)) (nn := (2 : Int32)) (us := [(.int d2), (.int d3)]) F107 F108 (Or.inl ⟨rfl, rfl⟩) (by decide) (by decide) (by decide) (by decide) (by decide) rfl (Nat.le_of_ble_eq_true rfl) N105 ge_b102 (g := (mkF m 27 #[sR ob, sI 2, sI 4, sI 2, sR b102] [(.int 2), (.int 0), (.ref b102), (.int 2), (.ref ob)])) rfl (by rw [hml]; rfl) (rest := []) rfl (hb hby d12_27) (by decide) (W := 0) (by show 2 * 0 + _ ≤ _; exact Nat.le_of_eq rfl) (by decide)
   have Xo106 := Xo105.keep K106 (allS ge_b102 all0)
   have KK106 := KK105.trans K106 (allS (Or.inr sz_b102) all0)
   have V106 : Arv Z h106 b102 k102 .byte (2 : Int32) [(.int d2), (.int d3)] (.int (0 : Int32)) := V106'
   refine own_to ?_ st106
   refine own_to (V := T106.setTop (mkF m 32 #[sR ob, sI 2, sI 4, sI 2, sR b102] [(.ref b102)])) ?_ fun t k => (by
     refine XS.aload X106.here hx rfl (hb hby d12_30) rfl rfl ?_
     exact k)
   exact own_retR X106 hx hret (by decide) rfl hlk (hb hby d12_32) (by rw [e106]; exact (⟨b102, k102, rfl, N106, KK106, V106, sz_b102⟩)) (by decide) (by decide)
  ·skip
   subst hv105
   have Xo105 := Xo102.keep K105 all0
   have KK105 := KK102.trans K105 all0
   have N105 := l105 _ N101 N105q
   exact absurd g105_0 (by decide)
def own_Qcor4_2_4 (Z : State) (ob : Addr) (kb : ClassId) (d0 d1 d2 d3 : Int32) (h0 : Heap) (n0 : Nat) (v : Option Value) (h : Heap) (L : List Loc) : Prop := (∃ (oo : Addr) (ko : ClassId), v = some (.ref oo) ∧ Fr n0 L ∧ Keep h0 h [] ∧ (Arv Z h oo ko .byte (2 : Int32) [(.int d2), (.int d3)] (.int (0 : Int32))) ∧ (h0.size ≤ oo))
theorem own_ef_cor4_2_4 (m : MethodId) (ob : Addr)  : entryFrame m #[(.ref ob), (.int 2), (.int 4)] 3 = mkF m 0 #[sR ob, sI 2, sI 4] [] := by first | (simp [entryFrame, mkF, argsToLocals, Value.category]; done) | rfl
theorem own_rmcor4_2_4 (l : Launch) (Z : State) (a0 : Array Value) (hw : ∀ d ∈ tables_1, d.before a0 Z = true) (hst : own_St Z) (ws : List Jvm.Cond) (ob : Addr) (kb : ClassId) (d0 d1 d2 d3 : Int32) (h0 : Heap) (n0 : Nat) (X00 : Old Z n0 h0) (hA : Arv Z h0 ob kb .byte (4 : Int32) [(.int d0), (.int d1), (.int d2), (.int d3)] (.int (0 : Int32))) :
    own_MF l own_mn14 jdk_65_method_132_code 3 (Option.some (Jvm.ClassFile.FieldType.array Jvm.ClassFile.FieldType.byte)) ws (own_R 2 1 2 34) #[(.ref ob), (.int 2), (.int 4)] Z h0 (own_Qcor4_2_4 Z ob kb d0 d1 d2 d3 h0 n0) := by
  refine own_body (plainFor_of_name own_pn0) (fun m => own_ef_cor4_2_4 m ob ) ?_
  intro p e s m below meth c s₁ hx hby hret hlk hml hZ hown hnm hh X0 e0
  have N0 := Fr.nil n0
  have KK0 : Keep h0 h0 [] := Keep.refl h0 _
  obtain ⟨⟨G1, O2, P5⟩, ⟨G3, O4, rG3⟩, -⟩ := id hst
  refine own_to (V := s₁.setTop (mkF m 13 #[sR ob, sI 2, sI 4] [(.int 4), (.int 2), (.ref ob)])) ?_ fun t k => (by
    refine XS.iloadN X0.here hx rfl (hb hby d13_0) rfl ?_
    refine XS.ifYes X0.here hx rfl (pc0 := 1) (pc' := 10) rfl (hb hby d13_1) rfl ((if0 _ _).trans (feq ((by decide) : ¬ ((2 : Int32) = (0 : Int32)))).2) (by decide) (by decide) ?_
    refine XS.aloadN X0.here hx rfl (hb hby d13_10) rfl rfl ?_
    refine XS.iloadN X0.here hx rfl (hb hby d13_11) rfl ?_
    refine XS.iloadN X0.here hx rfl (hb hby d13_12) rfl ?_
    exact k)
  obtain ⟨_, T101, h101, L101, Lc101, X101, e101, hQ101, l101, st101⟩ := own_cS (own_rmcrb4_2_4 l Z a0 hw hst [] ob kb d0 d1 d2 d3 h0 n0 X00 hA) X0 hx hZ hown e0 (own_i hw 98 rfl) (own_i hw 99 rfl) (own_i hw 96 rfl) (own_i hw 100 rfl) (by decide) (g := (mkF m 13 #[sR ob, sI 2, sI 4] [(.int 4), (.int 2), (.ref ob)])) rfl (by rw [hml]; rfl) (argsL := [(.ref ob), (.int 2), (.int 4)]) (rest := []) (lenOf own_pd9 rfl) rfl rfl (hb hby d13_13) (W := 0) (Nat.le_of_eq rfl) (K := 1) (N := 2) rfl rfl (by decide) (by decide) (by decide) (by decide)
  obtain ⟨oo101, ko101, hv101, N101q, K101, g101_0, g101_1⟩ := hQ101
  subst hv101
  have Xo101 := X00.keep K101 all0
  have KK101 := KK0.trans K101 all0
  have N101 := l101 _ N0 N101q
  have ge_oo101 := Nat.le_trans (own_ole X00) g101_1
  have sz_oo101 := Nat.le_trans KK0.1 g101_1
  refine own_to ?_ st101
  exact own_retR X101 hx hret (by decide) rfl hlk (hb hby d13_16) (by rw [e101]; exact (⟨oo101, ko101, rfl, N101, KK101, g101_0, sz_oo101⟩)) (by decide) (by decide)
def own_Qnst4_2_2 (Z : State) (ob : Addr) (kb : ClassId) (c0 c1 c2 c3 : Int32) (h0 : Heap) (n0 : Nat) (v : Option Value) (h : Heap) (L : List Loc) : Prop := (∃ (oo : Addr) (ou : Addr), v = some (.ref oo) ∧ Fr n0 L ∧ Keep h0 h [] ∧ (own_Str Z h oo ou ([c2, c3] : List Int32)))
theorem own_ef_nst4_2_2 (m : MethodId) (ob : Addr)  : entryFrame m #[(.ref ob), (.int 2), (.int 2)] 3 = mkF m 0 #[sR ob, sI 2, sI 2] [] := by first | (simp [entryFrame, mkF, argsToLocals, Value.category]; done) | rfl
theorem own_rmnst4_2_2 (l : Launch) (Z : State) (a0 : Array Value) (hw : ∀ d ∈ tables_1, d.before a0 Z = true) (hst : own_St Z) (ws : List Jvm.Cond) (ob : Addr) (kb : ClassId) (c0 c1 c2 c3 : Int32) (h0 : Heap) (n0 : Nat) (X00 : Old Z n0 h0) (l0 : ¬ c0 < 0 ∧ ¬ (255 : Int32) < c0) (l1 : ¬ c1 < 0 ∧ ¬ (255 : Int32) < c1) (l2 : ¬ c2 < 0 ∧ ¬ (255 : Int32) < c2) (l3 : ¬ c3 < 0 ∧ ¬ (255 : Int32) < c3) (hA : Arv Z h0 ob kb .byte (4 : Int32) [(.int (StrChars.lo8 c0)), (.int (StrChars.lo8 c1)), (.int (StrChars.lo8 c2)), (.int (StrChars.lo8 c3))] (.int (0 : Int32))) :
    own_MF l own_mn9 jdk_43_method_47_code 3 (Option.some (Jvm.ClassFile.FieldType.object "java/lang/String")) ws (own_R 3 2 6 50) #[(.ref ob), (.int 2), (.int 2)] Z h0 (own_Qnst4_2_2 Z ob kb c0 c1 c2 c3 h0 n0) := by
  refine own_body (plainFor_of_name own_pn5) (fun m => own_ef_nst4_2_2 m ob ) ?_
  intro p e s m below meth c s₁ hx hby hret hlk hml hZ hown hnm hh X0 e0
  have N0 := Fr.nil n0
  have KK0 : Keep h0 h0 [] := Keep.refl h0 _
  obtain ⟨⟨G1, O2, P5⟩, ⟨G3, O4, rG3⟩, -⟩ := id hst
  refine own_to (V := s₁.setTop (mkF m 7 #[sR ob, sI 2, sI 2] [])) ?_ fun t k => (by
    refine XS.iloadN X0.here hx rfl (hb hby d9_0) rfl ?_
    refine XS.ifYes X0.here hx rfl (pc0 := 1) (pc' := 7) rfl (hb hby d9_1) rfl ((if0 _ _).trans (feq ((by decide) : ¬ ((2 : Int32) = (0 : Int32)))).2) (by decide) (by decide) ?_
    exact k)
  obtain ⟨T101, h101, X101, e101, E101, A101, D101, U101, st101⟩ := newO X0 hx hZ hown (own_i hw 93 rfl) (own_i hw 2 rfl) (own_i hw 3 rfl) e0 (g := (mkF m 7 #[sR ob, sI 2, sI 2] [])) rfl (hb hby d9_7) (by decide) (by decide)
  obtain ⟨b101, g101⟩ : ∃ z, z = h0.size := ⟨_, rfl⟩
  rw [← g101] at A101 D101 U101 st101
  have Xo101 := X00.ext E101
  have KK101 := KK0.ext E101
  have ge_b101 := Nat.le_trans (own_ole X00) (Nat.le_of_eq g101.symm)
  have sz_b101 := Nat.le_trans KK0.1 (Nat.le_of_eq g101.symm)
  have Fi101_27 : Fld Z h101 b101 nm0 "coder" "B" (.int 0) := D101 (Or.inr (own_i hw 27 rfl)) (ty := .byte) (by decide)
  have Fi101_29 : Fld Z h101 b101 nm0 "value" "[B" .null := D101 (Or.inr (own_i hw 29 rfl)) (ty := (.array .byte)) (by decide)
  refine own_to ?_ st101
  refine own_to (V := T101.setTop (mkF m 16 #[sR ob, sI 2, sI 2] [(.int 4), (.int 2), (.ref ob), (.ref b101), (.ref b101)])) ?_ fun t k => (by
    refine XS.dup X101.here hx rfl (hb hby d9_10) rfl rfl ?_
    refine XS.aloadN X101.here hx rfl (hb hby d9_11) rfl rfl ?_
    refine XS.iloadN X101.here hx rfl (hb hby d9_12) rfl ?_
    refine XS.iloadN X101.here hx rfl (hb hby d9_13) rfl ?_
    refine XS.iloadN X101.here hx rfl (hb hby d9_14) rfl ?_
    refine XS.iadd X101.here hx rfl (hb hby d9_15) rfl ?_
    exact k)
  have F103 := (hA.ext E101)
  obtain ⟨_, T102, h102, L102, Lc102, X102, e102, hQ102, l102, st102⟩ := own_cS (own_rmcor4_2_4 l Z a0 hw hst [] ob kb (StrChars.lo8 c0) (StrChars.lo8 c1) (StrChars.lo8 c2) (StrChars.lo8 c3) h101 n0 Xo101 F103) X101 hx hZ hown e101 (own_i hw 94 rfl) (own_i hw 95 rfl) (own_i hw 96 rfl) (own_i hw 97 rfl) (by decide) (g := (mkF m 16 #[sR ob, sI 2, sI 2] [(.int 4), (.int 2), (.ref ob), (.ref b101), (.ref b101)])) rfl (by rw [hml]; rfl) (argsL := [(.ref ob), (.int 2), (.int 4)]) (rest := [(.ref b101), (.ref b101)]) (lenOf own_pd9 rfl) rfl rfl (hb hby d9_16) (W := 2) (Nat.le_of_eq rfl) (K := 2) (N := 6) rfl rfl (by decide) (by decide) (by decide) (by decide)
  obtain ⟨oo102, ko102, hv102, N102q, K102, g102_0, g102_1⟩ := hQ102
  subst hv102
  have Xo102 := Xo101.keep K102 all0
  have KK102 := KK101.trans K102 all0
  have N102 := l102 _ N0 N102q
  have ge_oo102 := Nat.le_trans (own_ole Xo101) g102_1
  have sz_oo102 := Nat.le_trans KK101.1 g102_1
  refine own_to ?_ st102
  refine own_to (V := T102.setTop (mkF m 20 #[sR ob, sI 2, sI 2] [(.int 0), (.ref oo102), (.ref b101), (.ref b101)])) ?_ fun t k => (by
    refine XS.iconst X102.here hx rfl (hb hby d9_19) ?_
    exact k)
  have F105 := (A101.keep K102)
  have F106 := (Fi101_29.keep K102 List.not_mem_nil)
  have F107 := (Fi101_27.keep K102 List.not_mem_nil)
  obtain ⟨_, T104, h104, L104, Lc104, X104, e104, hQ104, l104, st104⟩ := own_cI (own_rmsibb l Z a0 hw hst [] b101 oo102 h102 n0 Xo102 F105 F106 F107 ge_b101) X102 hx hZ hown e102 rfl (own_i hw 109 rfl) (own_i hw 110 rfl) (own_i hw 3 rfl) (own_i hw 111 rfl) (by decide) (g := (mkF m 20 #[sR ob, sI 2, sI 2] [(.int 0), (.ref oo102), (.ref b101), (.ref b101)])) rfl (by rw [hml]; rfl) (argsL := [(.ref oo102), (.int 0)]) (rest := [(.ref b101)]) (lenOf own_pd10 rfl) rfl rfl (hb hby d9_20) (W := 1) (Nat.le_of_eq rfl) (K := 2) (N := 6) rfl rfl (by decide) (by decide) (by decide) (by decide)
  obtain ⟨hv104, N104q, K104, g104_0, g104_1⟩ := hQ104
  subst hv104
  have Xo104 := Xo102.keep K104 (allS ge_b101 all0)
  have KK104 := KK102.trans K104 (allS (Or.inr sz_b101) all0)
  have N104 := l104 _ N102 N104q
  refine own_to ?_ st104
  have F109 := (F105.keep K104)
  have F110 := (g102_0.keep K104 (own_nmS (Ne.symm (Nat.ne_of_lt (Nat.lt_of_lt_of_le A101.lt g102_1))) own_nm0))
  have Fz108 : own_Str Z h104 b101 oo102 ([c2, c3] : List Int32) := own_mkLit F109 g104_0 g104_1 F110 rfl (own_allS l2 (own_allS l3 own_all0)) rfl (Nat.le_of_ble_eq_true rfl)
  exact own_retR X104 hx hret (by decide) rfl hlk (hb hby d9_23) (by rw [e104]; exact (⟨b101, oo102, rfl, N104, KK104, Fz108⟩)) (by decide) (by decide)
def own_Qsub4_2_4 (Z : State) (oa ua : Addr) (c0 c1 c2 c3 : Int32) (h0 : Heap) (n0 : Nat) (v : Option Value) (h : Heap) (L : List Loc) : Prop := (∃ (oo : Addr) (ou : Addr), v = some (.ref oo) ∧ Fr n0 L ∧ Keep h0 h [] ∧ (own_Str Z h oo ou ([c2, c3] : List Int32)))
theorem own_ef_sub4_2_4 (m : MethodId) (oa : Addr)  : entryFrame m #[(.ref oa), (.int 2), (.int 4)] 5 = mkF m 0 #[sR oa, sI 2, sI 4, .unset, .unset] [] := by first | (simp [entryFrame, mkF, argsToLocals, Value.category]; done) | rfl
theorem own_rmsub4_2_4 (l : Launch) (Z : State) (a0 : Array Value) (hw : ∀ d ∈ tables_1, d.before a0 Z = true) (hst : own_St Z) (ws : List Jvm.Cond) (oa ua : Addr) (c0 c1 c2 c3 : Int32) (h0 : Heap) (n0 : Nat) (X00 : Old Z n0 h0) (l0 : ¬ c0 < 0 ∧ ¬ (255 : Int32) < c0) (l1 : ¬ c1 < 0 ∧ ¬ (255 : Int32) < c1) (l2 : ¬ c2 < 0 ∧ ¬ (255 : Int32) < c2) (l3 : ¬ c3 < 0 ∧ ¬ (255 : Int32) < c3) (hS : own_Str Z h0 oa ua ([c0, c1, c2, c3] : List Int32)) :
    own_MF l own_mn10 jdk_42_method_92_code 5 (Option.some (Jvm.ClassFile.FieldType.object "java/lang/String")) ws (own_R 4 2 6 64) #[(.ref oa), (.int 2), (.int 4)] Z h0 (own_Qsub4_2_4 Z oa ua c0 c1 c2 c3 h0 n0) := by
  refine own_body (plainFor_of_name own_pn2) (fun m => own_ef_sub4_2_4 m oa ) ?_
  intro p e s m below meth c s₁ hx hby hret hlk hml hZ hown hnm hh X0 e0
  have N0 := Fr.nil n0
  have KK0 : Keep h0 h0 [] := Keep.refl h0 _
  obtain ⟨⟨G1, O2, P5⟩, ⟨G3, O4, rG3⟩, -⟩ := id hst
  obtain ⟨sk101, sE101, sV101, sC101, sK101', sb101⟩ := own_Str.latinL hS (own_lat2 (own_allS l0 (own_allS l1 (own_allS l2 (own_allS l3 own_all0)))))
  have sK101 : Arv Z h0 ua sk101 .byte (4 : Int32) [(.int (StrChars.lo8 c0)), (.int (StrChars.lo8 c1)), (.int (StrChars.lo8 c2)), (.int (StrChars.lo8 c3))] (.int (0 : Int32)) := sK101'
  refine own_to (V := s₁.setTop (mkF m 1 #[sR oa, sI 2, sI 4, .unset, .unset] [(.ref oa)])) ?_ fun t k => (by
    refine XS.aloadN X0.here hx rfl (hb hby d10_0) rfl rfl ?_
    exact k)
  obtain ⟨sE103, sd103, sN103, sk103, sv103, sV103, sC103, sK103, sc103, sb103, sl103⟩ := id hS
  obtain ⟨cq102, kq102, q102a, q102b, q102c⟩ := isOf hZ e0 sE101
  obtain ⟨_, _, ⟨T102, L102, k102, n102⟩, -, X102, ⟨Lc102, hQ102, l102, y102, z102⟩, st102⟩ := X0.virtualBack hx (y := own_mn11) (z := own_mn11) hown (mvT hZ (own_i hw 66 rfl)) (mvT hZ (own_i hw 67 rfl)) (notFace_of_selects (args := #[]) (mvT hZ (own_i hw 69 rfl))) (mvT hZ (own_i hw 69 rfl)) (mvT hZ (own_i hw 68 rfl)) (by decide) (StrChars.Road.lenW (W := 0) hZ (own_hln hw) (kI := 4) (own_i hw 2 rfl) sE103 sV103 sC103 sK103 sc103 sb103 (O2.ext X00.2) P5 sl103 (by decide) (by decide)) q102a q102c (g := (mkF m 1 #[sR oa, sI 2, sI 4, .unset, .unset] [(.ref oa)])) rfl (by rw [hml]; rfl) (Steps.refl _) (argsL := []) (rest := []) (lenOf own_pd2 rfl) rfl (by show 2 * 0 + _ ≤ _; exact Nat.le_of_eq rfl) (hb hby d10_1) (fun _ _ => ⟨rfl, e0, (by decide : 0 + 0 ≤ _), (by decide : 0 + 0 ≤ _)⟩)
  dsimp only [own_R, Pt.U, Pt.locs, Pt.cells, Pt.slots] at X102 l102 y102 z102 st102 hQ102
  subst y102 z102
  obtain ⟨hv102, hL102, hh102⟩ := hQ102
  subst hL102
  have N102 : Fr n0 L102 := by rw [l102]; exact Fr.app N0 (Fr.nil n0)
  subst hv102
  refine own_to ?_ (fun t k => st102.trans k)
  refine own_to (V := T102.setTop (mkF m 8 #[sR oa, sI 2, sI 4, sI 4, .unset] [(.int 4), (.int 4), (.int 2)])) ?_ fun t k => (by
    refine XS.istoreN X102.here hx rfl (hb hby d10_4) rfl (l' := #[sR oa, sI 2, sI 4, sI 4, .unset]) rfl ?_
    refine XS.iloadN X102.here hx rfl (hb hby d10_5) rfl ?_
    refine XS.iloadN X102.here hx rfl (hb hby d10_6) rfl ?_
    refine XS.iloadN X102.here hx rfl (hb hby d10_7) rfl ?_
    exact k)
  obtain ⟨_, T104, h104, L104, Lc104, X104, e104, hQ104, l104, st104⟩ := own_cS (own_rmcbbe l Z a0 hw hst [] (2 : Int32) (4 : Int32) (4 : Int32) h0 n0 X00 (by first | assumption | decide | omega | (simp; done) | rfl) (by first | assumption | decide | omega | (simp; done) | rfl) (by first | assumption | decide | omega | (simp; done) | rfl)) X102 hx hZ hown hh102 (own_i hw 76 rfl) (own_i hw 77 rfl) (own_i hw 3 rfl) (own_i hw 78 rfl) (by decide) (g := (mkF m 8 #[sR oa, sI 2, sI 4, sI 4, .unset] [(.int 4), (.int 4), (.int 2)])) rfl (by rw [hml]; rfl) (argsL := [(.int 2), (.int 4), (.int 4)]) (rest := []) (lenOf own_pd3 rfl) rfl rfl (hb hby d10_8) (W := 0) (Nat.le_of_eq rfl) (K := 0) (N := 0) rfl rfl (by decide) (by decide) (by decide) (by decide)
  obtain ⟨hv104, N104q, K104⟩ := hQ104
  subst hv104
  have Xo104 := X00.keep K104 all0
  have KK104 := KK0.trans K104 all0
  have N104 := l104 _ N102 N104q
  refine own_to ?_ st104
  refine own_to (V := T104.setTop (mkF m 28 #[sR oa, sI 2, sI 4, sI 4, sI 2] [(.ref oa)])) ?_ fun t k => (by
    refine XS.iloadN X104.here hx rfl (hb hby d10_11) rfl ?_
    refine XS.ifYes X104.here hx rfl (pc0 := 12) (pc' := 22) rfl (hb hby d10_12) rfl ((if0 _ _).trans (feq ((by decide) : ¬ ((2 : Int32) = (0 : Int32)))).2) (by decide) (by decide) ?_
    refine XS.iloadN X104.here hx rfl (hb hby d10_22) rfl ?_
    refine XS.iloadN X104.here hx rfl (hb hby d10_23) rfl ?_
    refine XS.isub X104.here hx rfl (hb hby d10_24) rfl ?_
    refine XS.istore X104.here hx rfl (hb hby d10_25) rfl (l' := #[sR oa, sI 2, sI 4, sI 4, sI 2]) rfl ?_
    refine XS.aloadN X104.here hx rfl (hb hby d10_27) rfl rfl ?_
    exact k)
  have F106 := (sE101.keep K104)
  have F107 := (sC101.keep K104 List.not_mem_nil)
  obtain ⟨_, T105, h105, L105, Lc105, X105, e105, hQ105, l105, st105⟩ := own_cV (own_rmisl1 l Z a0 hw hst [] oa h104 n0 Xo104 F106 F107) X104 hx hZ hown e104 F106 (own_i hw 84 rfl) (own_i hw 85 rfl) (notFace_of_selects (args := #[]) (mvT hZ (own_i hw 87 rfl))) (own_i hw 87 rfl) (own_i hw 86 rfl) (own_i hw 3 rfl) (own_i hw 88 rfl) (by decide) (g := (mkF m 28 #[sR oa, sI 2, sI 4, sI 4, sI 2] [(.ref oa)])) rfl (by rw [hml]; rfl) (argsL := []) (rest := []) (lenOf own_pd4 rfl) rfl rfl (hb hby d10_28) (W := 0) (Nat.le_of_eq rfl) (K := 0) (N := 0) rfl rfl (by decide) (by decide) (by decide) (by decide)
  obtain ⟨hv105, N105q, K105⟩ := hQ105
  subst hv105
  have Xo105 := Xo104.keep K105 all0
  have KK105 := KK104.trans K105 all0
  have N105 := l105 _ N104 N105q
  refine own_to ?_ st105
  refine own_to (V := T105.setTop (mkF m 35 #[sR oa, sI 2, sI 4, sI 4, sI 2] [(.ref oa)])) ?_ fun t k => (by
    refine XS.ifNo X105.here hx rfl (hb hby d10_31) rfl ((if0 _ _).trans (feq ((by decide) : ¬ ((1 : Int32) = (0 : Int32)))).1) ?_
    refine XS.aloadN X105.here hx rfl (hb hby d10_34) rfl rfl ?_
    exact k)
  have F108 := ((sV101.keep K104 List.not_mem_nil).keep K105 List.not_mem_nil)
  obtain ⟨T109, X109, e109, st109⟩ := getF X105 hx hZ hown (host := "") (Or.inl (own_i hw 28 rfl)) Via.refl e105 F108 (g := (mkF m 35 #[sR oa, sI 2, sI 4, sI 4, sI 2] [(.ref oa)])) rfl rfl (hb hby d10_35)
  refine own_to ?_ st109
  refine own_to (V := T109.setTop (mkF m 41 #[sR oa, sI 2, sI 4, sI 4, sI 2] [(.int 2), (.int 2), (.ref ua)])) ?_ fun t k => (by
    refine XS.iloadN X109.here hx rfl (hb hby d10_38) rfl ?_
    refine XS.iload X109.here hx rfl (hb hby d10_39) rfl ?_
    exact k)
  have F111 := ((sK101.keep K104 List.not_mem_nil).keep K105 List.not_mem_nil)
  obtain ⟨_, T110, h110, L110, Lc110, X110, e110, hQ110, l110, st110⟩ := own_cS (own_rmnst4_2_2 l Z a0 hw hst [] ua sk101 c0 c1 c2 c3 h105 n0 Xo105 l0 l1 l2 l3 F111) X109 hx hZ hown e109 (own_i hw 89 rfl) (own_i hw 90 rfl) (own_i hw 91 rfl) (own_i hw 92 rfl) (by decide) (g := (mkF m 41 #[sR oa, sI 2, sI 4, sI 4, sI 2] [(.int 2), (.int 2), (.ref ua)])) rfl (by rw [hml]; rfl) (argsL := [(.ref ua), (.int 2), (.int 2)]) (rest := []) (lenOf own_pd5 rfl) rfl rfl (hb hby d10_41) (W := 0) (Nat.le_of_eq rfl) (K := 2) (N := 6) rfl rfl (by decide) (by decide) (by decide) (by decide)
  obtain ⟨oo110, ou110, hv110, N110q, K110, g110_0⟩ := hQ110
  subst hv110
  have Xo110 := Xo105.keep K110 all0
  have KK110 := KK105.trans K110 all0
  have N110 := l110 _ N105 N110q
  refine own_to ?_ st110
  refine own_to (V := T110.setTop (mkF m 57 #[sR oa, sI 2, sI 4, sI 4, sI 2] [(.ref oo110)])) ?_ fun t k => (by
    refine XS.goto X110.here hx rfl (pc0 := 44) (pc' := 57) rfl (hb hby d10_44) (by decide) (by decide) ?_
    exact k)
  exact own_retR X110 hx hret (by decide) rfl hlk (hb hby d10_57) (by rw [e110]; exact (⟨oo110, ou110, rfl, N110, KK110, g110_0⟩)) (by decide) (by decide)
def own_Qtos24 (Z : State) (ow oa ua : Addr) (c0 c1 c2 c3 : Int32) (h0 : Heap) (n0 : Nat) (v : Option Value) (h : Heap) (L : List Loc) : Prop := (∃ (oo : Addr) (ou : Addr), v = some (.ref oo) ∧ Fr n0 L ∧ Keep h0 h [] ∧ (own_Str Z h oo ou ([c2, c3] : List Int32)))
theorem own_ef_tos24 (m : MethodId) (ow : Addr)  : entryFrame m #[(.ref ow)] 1 = mkF m 0 #[sR ow] [] := by first | (simp [entryFrame, mkF, argsToLocals, Value.category]; done) | rfl
theorem own_rmtos24 (l : Launch) (Z : State) (a0 : Array Value) (hw : ∀ d ∈ tables_1, d.before a0 Z = true) (hst : own_St Z) (ws : List Jvm.Cond) (ow oa ua : Addr) (c0 c1 c2 c3 : Int32) (h0 : Heap) (n0 : Nat) (X00 : Old Z n0 h0) (l0 : ¬ c0 < 0 ∧ ¬ (255 : Int32) < c0) (l1 : ¬ c1 < 0 ∧ ¬ (255 : Int32) < c1) (l2 : ¬ c2 < 0 ∧ ¬ (255 : Int32) < c2) (l3 : ¬ c3 < 0 ∧ ¬ (255 : Int32) < c3) (hE : Exa Z h0 ow nm1) (f1 : Fld Z h0 ow nm1 "text" nm2 (.ref oa)) (f2 : Fld Z h0 ow nm1 "start" "I" (.int 2)) (f3 : Fld Z h0 ow nm1 "end" "I" (.int 4)) (hS : own_Str Z h0 oa ua ([c0, c1, c2, c3] : List Int32)) :
    own_MF l own_mn12 prog_77_method_5_code 1 (Option.some (Jvm.ClassFile.FieldType.object "java/lang/String")) ws (own_R 5 2 6 80) #[(.ref ow)] Z h0 (own_Qtos24 Z ow oa ua c0 c1 c2 c3 h0 n0) := by
  refine own_body (plainFor_of_name own_pn4) (fun m => own_ef_tos24 m ow ) ?_
  intro p e s m below meth c s₁ hx hby hret hlk hml hZ hown hnm hh X0 e0
  have N0 := Fr.nil n0
  have KK0 : Keep h0 h0 [] := Keep.refl h0 _
  obtain ⟨⟨G1, O2, P5⟩, ⟨G3, O4, rG3⟩, -⟩ := id hst
  refine own_to (V := s₁.setTop (mkF m 1 #[sR ow] [(.ref ow)])) ?_ fun t k => (by
    refine XS.aloadN X0.here hx rfl (hb hby d11_0) rfl rfl ?_
    exact k)
  obtain ⟨T101, X101, e101, st101⟩ := getF X0 hx hZ hown (host := "") (Or.inl (own_i hw 50 rfl)) Via.refl e0 f1 (g := (mkF m 1 #[sR ow] [(.ref ow)])) rfl rfl (hb hby d11_1)
  refine own_to ?_ st101
  refine own_to (V := T101.setTop (mkF m 5 #[sR ow] [(.ref ow), (.ref oa)])) ?_ fun t k => (by
    refine XS.aloadN X101.here hx rfl (hb hby d11_4) rfl rfl ?_
    exact k)
  obtain ⟨T102, X102, e102, st102⟩ := getF X101 hx hZ hown (host := "") (Or.inl (own_i hw 52 rfl)) Via.refl e101 f2 (g := (mkF m 5 #[sR ow] [(.ref ow), (.ref oa)])) rfl rfl (hb hby d11_5)
  refine own_to ?_ st102
  refine own_to (V := T102.setTop (mkF m 9 #[sR ow] [(.ref ow), (.int 2), (.ref oa)])) ?_ fun t k => (by
    refine XS.aloadN X102.here hx rfl (hb hby d11_8) rfl rfl ?_
    exact k)
  obtain ⟨T103, X103, e103, st103⟩ := getF X102 hx hZ hown (host := "") (Or.inl (own_i hw 54 rfl)) Via.refl e102 f3 (g := (mkF m 9 #[sR ow] [(.ref ow), (.int 2), (.ref oa)])) rfl rfl (hb hby d11_9)
  refine own_to ?_ st103
  obtain ⟨_, T104, h104, L104, Lc104, X104, e104, hQ104, l104, st104⟩ := own_cV (own_rmsub4_2_4 l Z a0 hw hst [] oa ua c0 c1 c2 c3 h0 n0 X00 l0 l1 l2 l3 hS) X103 hx hZ hown e103 hS.1 (own_i hw 61 rfl) (own_i hw 62 rfl) (notFace_of_selects (args := #[]) (mvT hZ (own_i hw 64 rfl))) (own_i hw 64 rfl) (own_i hw 63 rfl) (own_i hw 3 rfl) (own_i hw 65 rfl) (by decide) (g := (mkF m 12 #[sR ow] [(.int 4), (.int 2), (.ref oa)])) rfl (by rw [hml]; rfl) (argsL := [(.int 2), (.int 4)]) (rest := []) (lenOf own_pd6 rfl) rfl rfl (hb hby d11_12) (W := 0) (Nat.le_of_eq rfl) (K := 2) (N := 6) rfl rfl (by decide) (by decide) (by decide) (by decide)
  obtain ⟨oo104, ou104, hv104, N104q, K104, g104_0⟩ := hQ104
  subst hv104
  have Xo104 := X00.keep K104 all0
  have KK104 := KK0.trans K104 all0
  have N104 := l104 _ N0 N104q
  refine own_to ?_ st104
  exact own_retR X104 hx hret (by decide) rfl hlk (hb hby d11_15) (by rw [e104]; exact (⟨oo104, ou104, rfl, N104, KK104, g104_0⟩)) (by decide) (by decide)
def own_Qsm220 (Z : State) (oa ua ob : Addr) (kb : ClassId) (c0 c1 c2 c3 : Int32) (h0 : Heap) (n0 : Nat) (v : Option Value) (h : Heap) (L : List Loc) : Prop := (v = some (.int 1) ∧ Fr n0 L ∧ Keep h0 h [])
theorem own_ef_sm220 (m : MethodId) (oa : Addr) (ob : Addr)  : entryFrame m #[(.ref oa), (.int 0), (.ref ob), (.int 2), (.int 2)] 5 = mkF m 0 #[sR oa, sI 0, sR ob, sI 2, sI 2] [] := by first | (simp [entryFrame, mkF, argsToLocals, Value.category]; done) | rfl
theorem own_rmsm220 (l : Launch) (Z : State) (a0 : Array Value) (hw : ∀ d ∈ tables_1, d.before a0 Z = true) (hst : own_St Z) (ws : List Jvm.Cond) (oa ua ob : Addr) (kb : ClassId) (c0 c1 c2 c3 : Int32) (h0 : Heap) (n0 : Nat) (X00 : Old Z n0 h0) (l0 : ¬ c0 < 0 ∧ ¬ (255 : Int32) < c0) (l1 : ¬ c1 < 0 ∧ ¬ (255 : Int32) < c1) (l2 : ¬ c2 < 0 ∧ ¬ (255 : Int32) < c2) (l3 : ¬ c3 < 0 ∧ ¬ (255 : Int32) < c3) (hS : own_Str Z h0 oa ua ([c2, c3] : List Int32)) (hA : Arv Z h0 ob kb .char (4 : Int32) [(.int c0), (.int c1), (.int c2), (.int c3)] (.int (0 : Int32))) :
    own_MF l own_mn15 method_2_code 5 (Option.some Jvm.ClassFile.FieldType.boolean) ws (own_R 4 0 0 53) #[(.ref oa), (.int 0), (.ref ob), (.int 2), (.int 2)] Z h0 (own_Qsm220 Z oa ua ob kb c0 c1 c2 c3 h0 n0) := by
  refine own_body (plainFor_of_name own_pn6) (fun m => own_ef_sm220 m oa ob ) ?_
  intro p e s m below meth c s₁ hx hby hret hlk hml hZ hown hnm hh X0 e0
  have N0 := Fr.nil n0
  have KK0 : Keep h0 h0 [] := Keep.refl h0 _
  obtain ⟨⟨G1, O2, P5⟩, ⟨G3, O4, rG3⟩, -⟩ := id hst
  refine own_to (V := s₁.setTop (mkF m 10 #[sR oa, sI 0, sR ob, sI 2, sI 2] [(.int 0), (.ref oa)])) ?_ fun t k => (by
    refine XS.iloadN X0.here hx rfl (hb hby d14_0) rfl ?_
    refine XS.iload X0.here hx rfl (hb hby d14_1) rfl ?_
    refine XS.icmpYes X0.here hx rfl (pc0 := 3) (pc' := 8) rfl (hb hby d14_3) rfl (tlt ((by decide) : (0 : Int32) < (2 : Int32))).1 (by decide) (by decide) ?_
    refine XS.aloadN X0.here hx rfl (hb hby d14_8) rfl rfl ?_
    refine XS.iloadN X0.here hx rfl (hb hby d14_9) rfl ?_
    exact k)
  obtain ⟨sN102, sk102, sv102, sE102, sV102, sC102, sK102, sc102, sb102, sl102⟩ := own_Str.latin hS (own_lat2 (own_allS l2 (own_allS l3 own_all0)))
  obtain ⟨cq101, kq101, q101a, q101b, q101c⟩ := isOf hZ e0 hS.1
  obtain ⟨_, _, ⟨T101, L101, k101, n101⟩, -, X101, ⟨Lc101, hQ101, l101, y101, z101⟩, st101⟩ := X0.virtualBack hx (y := own_mn16) (z := own_mn16) hown (mvT hZ (own_i hw 117 rfl)) (mvT hZ (own_i hw 118 rfl)) (notFace_of_selects (args := #[]) (mvT hZ (own_i hw 120 rfl))) (mvT hZ (own_i hw 120 rfl)) (mvT hZ (own_i hw 119 rfl)) (by decide) (StrChars.Road.chN (W := 0) hZ (own_hch hw) (kI := 4) (own_i hw 2 rfl) sE102 sV102 sC102 sK102 sc102 sb102 (O2.ext X00.2) P5 (O4.ext X00.2) rG3 sl102 (i := 0) (Nat.le_of_ble_eq_true rfl) (j := (0 : Int32)) rfl (by decide) (by decide)) q101a q101c (g := (mkF m 10 #[sR oa, sI 0, sR ob, sI 2, sI 2] [(.int 0), (.ref oa)])) rfl (by rw [hml]; rfl) (Steps.refl _) (argsL := [(.int 0)]) (rest := []) (lenOf own_pd11 rfl) rfl (by show 2 * 0 + _ ≤ _; exact Nat.le_of_eq rfl) (hb hby d14_10) (fun _ _ => ⟨rfl, e0, (by decide : 0 + 0 ≤ _), (by decide : 0 + 0 ≤ _)⟩)
  dsimp only [own_R, Pt.U, Pt.locs, Pt.cells, Pt.slots] at X101 l101 y101 z101 st101 hQ101
  subst y101 z101
  obtain ⟨hv101, hL101, hh101⟩ := hQ101
  subst hL101
  have N101 : Fr n0 L101 := by rw [l101]; exact Fr.app N0 (Fr.nil n0)
  subst hv101
  refine own_to ?_ (fun t k => st101.trans k)
  refine own_to (V := T101.setTop (mkF m 17 #[sR oa, sI 0, sR ob, sI 2, sI 2] [(.int 2), (.ref ob), (.int c2)])) ?_ fun t k => (by
    refine XS.aloadN X101.here hx rfl (hb hby d14_13) rfl rfl ?_
    refine XS.iloadN X101.here hx rfl (hb hby d14_14) rfl ?_
    refine XS.iloadN X101.here hx rfl (hb hby d14_15) rfl ?_
    refine XS.iadd X101.here hx rfl (hb hby d14_16) rfl ?_
    exact k)
  obtain ⟨cl103, Ar103, q103, S103, M103, H103, G103⟩ := id hA
  have hin103 : ¬ ((2 : Int32) < 0 ∨ cl103.slots.size ≤ ((2 : Int32)).toNatClampNeg) := inb_of S103 ⟨by decide, by decide⟩
  refine own_to (V := T101.setTop (mkF m 18 #[sR oa, sI 0, sR ob, sI 2, sI 2] [(.int c2), (.int c2)])) ?_ (fun t k => X101.caload hx (j := (2 : Int32)) (v := (.int c2)) (by rw [hh101]; exact Ar103.1) (State.isArrayOf_alike hZ.alike Ar103.2.1) Ar103.2.2 hin103 (Has.at H103 hin103 rfl) (g := (mkF m 17 #[sR oa, sI 0, sR ob, sI 2, sI 2] [(.int 2), (.ref ob), (.int c2)])) rfl rfl (hb hby d14_17) t k)
  refine own_to (V := T101.setTop (mkF m 26 #[sR oa, sI 0, sR ob, sI 2, sI 2] [(.int 1)])) ?_ fun t k => (by
    refine XS.icmpNo X101.here hx rfl (hb hby d14_18) rfl (teq (rfl : c2 = c2)).2 ?_
    refine XS.iconst X101.here hx rfl (hb hby d14_21) ?_
    refine XS.goto X101.here hx rfl (pc0 := 22) (pc' := 26) rfl (hb hby d14_22) (by decide) (by decide) ?_
    exact k)
  exact own_retN X101 hx (t := .boolean) (w := (1 : Int32)) hret (by decide) rfl hlk (hb hby d14_26) (by rw [hh101]; exact (⟨rfl, N101, KK0⟩)) (by decide) (by decide)
def own_Qsm221 (Z : State) (oa ua ob : Addr) (kb : ClassId) (c0 c1 c2 c3 : Int32) (h0 : Heap) (n0 : Nat) (v : Option Value) (h : Heap) (L : List Loc) : Prop := (v = some (.int 1) ∧ Fr n0 L ∧ Keep h0 h [])
theorem own_ef_sm221 (m : MethodId) (oa : Addr) (ob : Addr)  : entryFrame m #[(.ref oa), (.int 1), (.ref ob), (.int 2), (.int 2)] 5 = mkF m 0 #[sR oa, sI 1, sR ob, sI 2, sI 2] [] := by first | (simp [entryFrame, mkF, argsToLocals, Value.category]; done) | rfl
theorem own_rmsm221 (l : Launch) (Z : State) (a0 : Array Value) (hw : ∀ d ∈ tables_1, d.before a0 Z = true) (hst : own_St Z) (ws : List Jvm.Cond) (oa ua ob : Addr) (kb : ClassId) (c0 c1 c2 c3 : Int32) (h0 : Heap) (n0 : Nat) (X00 : Old Z n0 h0) (l0 : ¬ c0 < 0 ∧ ¬ (255 : Int32) < c0) (l1 : ¬ c1 < 0 ∧ ¬ (255 : Int32) < c1) (l2 : ¬ c2 < 0 ∧ ¬ (255 : Int32) < c2) (l3 : ¬ c3 < 0 ∧ ¬ (255 : Int32) < c3) (hS : own_Str Z h0 oa ua ([c2, c3] : List Int32)) (hA : Arv Z h0 ob kb .char (4 : Int32) [(.int c0), (.int c1), (.int c2), (.int c3)] (.int (0 : Int32))) :
    own_MF l own_mn15 method_2_code 5 (Option.some Jvm.ClassFile.FieldType.boolean) ws (own_R 4 0 0 53) #[(.ref oa), (.int 1), (.ref ob), (.int 2), (.int 2)] Z h0 (own_Qsm221 Z oa ua ob kb c0 c1 c2 c3 h0 n0) := by
  refine own_body (plainFor_of_name own_pn6) (fun m => own_ef_sm221 m oa ob ) ?_
  intro p e s m below meth c s₁ hx hby hret hlk hml hZ hown hnm hh X0 e0
  have N0 := Fr.nil n0
  have KK0 : Keep h0 h0 [] := Keep.refl h0 _
  obtain ⟨⟨G1, O2, P5⟩, ⟨G3, O4, rG3⟩, -⟩ := id hst
  refine own_to (V := s₁.setTop (mkF m 10 #[sR oa, sI 1, sR ob, sI 2, sI 2] [(.int 1), (.ref oa)])) ?_ fun t k => (by
    refine XS.iloadN X0.here hx rfl (hb hby d14_0) rfl ?_
    refine XS.iload X0.here hx rfl (hb hby d14_1) rfl ?_
    refine XS.icmpYes X0.here hx rfl (pc0 := 3) (pc' := 8) rfl (hb hby d14_3) rfl (tlt ((by decide) : (1 : Int32) < (2 : Int32))).1 (by decide) (by decide) ?_
    refine XS.aloadN X0.here hx rfl (hb hby d14_8) rfl rfl ?_
    refine XS.iloadN X0.here hx rfl (hb hby d14_9) rfl ?_
    exact k)
  obtain ⟨sN102, sk102, sv102, sE102, sV102, sC102, sK102, sc102, sb102, sl102⟩ := own_Str.latin hS (own_lat2 (own_allS l2 (own_allS l3 own_all0)))
  obtain ⟨cq101, kq101, q101a, q101b, q101c⟩ := isOf hZ e0 hS.1
  obtain ⟨_, _, ⟨T101, L101, k101, n101⟩, -, X101, ⟨Lc101, hQ101, l101, y101, z101⟩, st101⟩ := X0.virtualBack hx (y := own_mn16) (z := own_mn16) hown (mvT hZ (own_i hw 117 rfl)) (mvT hZ (own_i hw 118 rfl)) (notFace_of_selects (args := #[]) (mvT hZ (own_i hw 120 rfl))) (mvT hZ (own_i hw 120 rfl)) (mvT hZ (own_i hw 119 rfl)) (by decide) (StrChars.Road.chN (W := 0) hZ (own_hch hw) (kI := 4) (own_i hw 2 rfl) sE102 sV102 sC102 sK102 sc102 sb102 (O2.ext X00.2) P5 (O4.ext X00.2) rG3 sl102 (i := 1) (Nat.le_of_ble_eq_true rfl) (j := (1 : Int32)) rfl (by decide) (by decide)) q101a q101c (g := (mkF m 10 #[sR oa, sI 1, sR ob, sI 2, sI 2] [(.int 1), (.ref oa)])) rfl (by rw [hml]; rfl) (Steps.refl _) (argsL := [(.int 1)]) (rest := []) (lenOf own_pd11 rfl) rfl (by show 2 * 0 + _ ≤ _; exact Nat.le_of_eq rfl) (hb hby d14_10) (fun _ _ => ⟨rfl, e0, (by decide : 0 + 0 ≤ _), (by decide : 0 + 0 ≤ _)⟩)
  dsimp only [own_R, Pt.U, Pt.locs, Pt.cells, Pt.slots] at X101 l101 y101 z101 st101 hQ101
  subst y101 z101
  obtain ⟨hv101, hL101, hh101⟩ := hQ101
  subst hL101
  have N101 : Fr n0 L101 := by rw [l101]; exact Fr.app N0 (Fr.nil n0)
  subst hv101
  refine own_to ?_ (fun t k => st101.trans k)
  refine own_to (V := T101.setTop (mkF m 17 #[sR oa, sI 1, sR ob, sI 2, sI 2] [(.int 3), (.ref ob), (.int c3)])) ?_ fun t k => (by
    refine XS.aloadN X101.here hx rfl (hb hby d14_13) rfl rfl ?_
    refine XS.iloadN X101.here hx rfl (hb hby d14_14) rfl ?_
    refine XS.iloadN X101.here hx rfl (hb hby d14_15) rfl ?_
    refine XS.iadd X101.here hx rfl (hb hby d14_16) rfl ?_
    exact k)
  obtain ⟨cl103, Ar103, q103, S103, M103, H103, G103⟩ := id hA
  have hin103 : ¬ ((3 : Int32) < 0 ∨ cl103.slots.size ≤ ((3 : Int32)).toNatClampNeg) := inb_of S103 ⟨by decide, by decide⟩
  refine own_to (V := T101.setTop (mkF m 18 #[sR oa, sI 1, sR ob, sI 2, sI 2] [(.int c3), (.int c3)])) ?_ (fun t k => X101.caload hx (j := (3 : Int32)) (v := (.int c3)) (by rw [hh101]; exact Ar103.1) (State.isArrayOf_alike hZ.alike Ar103.2.1) Ar103.2.2 hin103 (Has.at H103 hin103 rfl) (g := (mkF m 17 #[sR oa, sI 1, sR ob, sI 2, sI 2] [(.int 3), (.ref ob), (.int c3)])) rfl rfl (hb hby d14_17) t k)
  refine own_to (V := T101.setTop (mkF m 26 #[sR oa, sI 1, sR ob, sI 2, sI 2] [(.int 1)])) ?_ fun t k => (by
    refine XS.icmpNo X101.here hx rfl (hb hby d14_18) rfl (teq (rfl : c3 = c3)).2 ?_
    refine XS.iconst X101.here hx rfl (hb hby d14_21) ?_
    refine XS.goto X101.here hx rfl (pc0 := 22) (pc' := 26) rfl (hb hby d14_22) (by decide) (by decide) ?_
    exact k)
  exact own_retN X101 hx (t := .boolean) (w := (1 : Int32)) hret (by decide) rfl hlk (hb hby d14_26) (by rw [hh101]; exact (⟨rfl, N101, KK0⟩)) (by decide) (by decide)
def own_Qnst4_3_0 (Z : State) (ob : Addr) (kb : ClassId) (c0 c1 c2 c3 : Int32) (h0 : Heap) (n0 : Nat) (v : Option Value) (h : Heap) (L : List Loc) : Prop := (∃ (oo : Addr) (ou : Addr), v = some (.ref oo) ∧ Fr n0 L ∧ Keep h0 h [] ∧ (own_Str Z h oo ou ([] : List Int32)))
theorem own_ef_nst4_3_0 (m : MethodId) (ob : Addr)  : entryFrame m #[(.ref ob), (.int 3), (.int 0)] 3 = mkF m 0 #[sR ob, sI 3, sI 0] [] := by first | (simp [entryFrame, mkF, argsToLocals, Value.category]; done) | rfl
theorem own_rmnst4_3_0 (l : Launch) (Z : State) (a0 : Array Value) (hw : ∀ d ∈ tables_1, d.before a0 Z = true) (hst : own_St Z) (ws : List Jvm.Cond) (ob : Addr) (kb : ClassId) (c0 c1 c2 c3 : Int32) (h0 : Heap) (n0 : Nat) (X00 : Old Z n0 h0) (l0 : ¬ c0 < 0 ∧ ¬ (255 : Int32) < c0) (l1 : ¬ c1 < 0 ∧ ¬ (255 : Int32) < c1) (l2 : ¬ c2 < 0 ∧ ¬ (255 : Int32) < c2) (l3 : ¬ c3 < 0 ∧ ¬ (255 : Int32) < c3) (hA : Arv Z h0 ob kb .byte (4 : Int32) [(.int (StrChars.lo8 c0)), (.int (StrChars.lo8 c1)), (.int (StrChars.lo8 c2)), (.int (StrChars.lo8 c3))] (.int (0 : Int32))) :
    MetFree l own_mn9 (head1 (Jvm.Cond.code own_mn9 jdk_43_method_47_code 3 (Option.some (Jvm.ClassFile.FieldType.object "java/lang/String")) :: ws) (own_R 0 2 4 0)) (fun a U => a = #[(.ref ob), (.int 3), (.int 0)] ∧ Z.Warmed39 U.vm ∧ U.heap = h0 ∧ CHv Z consts_1 U.vm h0) (fun _ _ _ _ _ => True) (fun _ U o U' => ∃ v L, o = .returned v ∧ own_Qnst4_3_0 Z ob kb c0 c1 c2 c3 h0 n0 v U'.heap L ∧ CHr Z consts_1 U.vm U.heap U'.vm U'.heap ∧ ReturnedEndW U o U' L (own_R 0 2 4 0).cells (own_R 0 2 4 0).slots) := by
  refine MetFree.of_bodySF (plainFor_of_name own_pn5) hisR ?_
  intro p e s m args below meth c s₁ Bd hml0 hP hK
  obtain ⟨rfl, hZ, hh, hCH⟩ := hP
  have hx := Bd.exec
  have hby := Bd.bytes
  have hret := Bd.returns
  have hlk : meth.locks = false := BodyLoose.notSynchronized Bd
  have hml : c.maxLocals = 3 := hml0
  have hown : s.vm.findClass "java/lang/StringLatin1" = some m.cls := findClass_of_methodNamed Bd.named
  have hnm := (name_of_methodNamed Bd.named Bd.method).1
  have X0 : Stand p l e (own_R 0 2 4 0) (s.setVm s.vm) m #[(.ref ob), (.int 3), (.int 0)] below meth c s₁ [] 0 0 := Stand.of_body Bd
  have e0 : s₁.heap = h0 := by rw [← hh, Bd.state]; rfl
  have N0 := Fr.nil n0
  have KK0 : Keep h0 h0 [] := Keep.refl h0 _
  have hS0 : s.Since s.vm 0 := (State.WarmedH.refl s).since 0
  have hk0 : 0 ≤ h0.size := Nat.zero_le _
  have Ch0 : CHr Z consts_1 s.vm h0 s.vm h0 := CHr.refl hCH
  refine own_startH (own_Qnst4_3_0 Z ob kb c0 c1 c2 c3 h0 n0) ?_
  refine own_to (V := s₁.setTop (mkF m 0 #[sR ob, sI 3, sI 0] [])) ?_ (fun t k => castTop (own_ef_nst4_3_0 m ob ) k)
  obtain ⟨⟨G1, O2, P5⟩, ⟨G3, O4, rG3⟩, -⟩ := id hst
  refine own_to (V := s₁.setTop (mkF m 4 #[sR ob, sI 3, sI 0] [])) ?_ fun t k => (by
    refine XS.iloadN X0.here hx rfl (hb hby d9_0) rfl ?_
    refine XS.ifNo X0.here hx rfl (hb hby d9_1) rfl ((if0 _ _).trans (teq ((by decide) : (0 : Int32) = (0 : Int32))).2) ?_
    exact k)
  obtain ⟨s101, T101, h101, k101, t101, kb101, X101, e101, E101, hS101, hk101, hZ101, hown101, gE101, gC101, gV101, gK101, la101, lb101, hC101, hL101, hne101, st101⟩ := ldcCH X0 hx hZ hown (own_i hw 131 rfl) (own_hsa hw) e0 hS0 hk0 (own_hEL hw) (own_mem131) Ch0.1 (vs := ([] : List Value)) (z := (0 : Int32)) ⟨by decide, by decide +kernel⟩ (by decide) (by decide) (g := (mkF m 4 #[sR ob, sI 3, sI 0] [])) rfl (hb hby d9_4) (n := 0) (by decide) (by decide) (by decide) (by decide)
  have Cs101 : CHr Z consts_1 s.vm h0 T101.vm h101 := hC101
  have Ch101 := Ch0.trans Cs101
  have Xo101 := X00.ext E101
  have KK101 := KK0.ext E101
  have Fs101 : own_Str Z h101 s101 t101 ([] : List Int32) := own_mkLit gE101 gV101 gC101 gK101 (by decide) (by decide) (by decide +kernel) (by decide)
  refine own_to ?_ st101
  exact own_retRH X101 hx hS101 (own_hk e101 hk101) (by rw [e101, hh]; exact Ch101.trans (CHv.at X101 hZ101 (own_hEL hw) Ch101.1)) hret (by decide) rfl hlk (hb hby d9_6) (by rw [e101]; exact (⟨s101, t101, rfl, N0, KK101, Fs101⟩)) (by decide) (by decide)
def own_Qsub4_3_3 (Z : State) (oa ua : Addr) (c0 c1 c2 c3 : Int32) (h0 : Heap) (n0 : Nat) (v : Option Value) (h : Heap) (L : List Loc) : Prop := (∃ (oo : Addr) (ou : Addr), v = some (.ref oo) ∧ Fr n0 L ∧ Keep h0 h [] ∧ (own_Str Z h oo ou ([] : List Int32)))
theorem own_ef_sub4_3_3 (m : MethodId) (oa : Addr)  : entryFrame m #[(.ref oa), (.int 3), (.int 3)] 5 = mkF m 0 #[sR oa, sI 3, sI 3, .unset, .unset] [] := by first | (simp [entryFrame, mkF, argsToLocals, Value.category]; done) | rfl
theorem own_rmsub4_3_3 (l : Launch) (Z : State) (a0 : Array Value) (hw : ∀ d ∈ tables_1, d.before a0 Z = true) (hst : own_St Z) (ws : List Jvm.Cond) (oa ua : Addr) (c0 c1 c2 c3 : Int32) (h0 : Heap) (n0 : Nat) (X00 : Old Z n0 h0) (l0 : ¬ c0 < 0 ∧ ¬ (255 : Int32) < c0) (l1 : ¬ c1 < 0 ∧ ¬ (255 : Int32) < c1) (l2 : ¬ c2 < 0 ∧ ¬ (255 : Int32) < c2) (l3 : ¬ c3 < 0 ∧ ¬ (255 : Int32) < c3) (hS : own_Str Z h0 oa ua ([c0, c1, c2, c3] : List Int32)) :
    MetFree l own_mn10 (head1 (Jvm.Cond.code own_mn10 jdk_42_method_92_code 5 (Option.some (Jvm.ClassFile.FieldType.object "java/lang/String")) :: ws) (own_R 2 2 4 29)) (fun a U => a = #[(.ref oa), (.int 3), (.int 3)] ∧ Z.Warmed39 U.vm ∧ U.heap = h0 ∧ CHv Z consts_1 U.vm h0) (fun _ _ _ _ _ => True) (fun _ U o U' => ∃ v L, o = .returned v ∧ own_Qsub4_3_3 Z oa ua c0 c1 c2 c3 h0 n0 v U'.heap L ∧ CHr Z consts_1 U.vm U.heap U'.vm U'.heap ∧ ReturnedEndW U o U' L (own_R 2 2 4 29).cells (own_R 2 2 4 29).slots) := by
  refine MetFree.of_bodySF (plainFor_of_name own_pn2) hisR ?_
  intro p e s m args below meth c s₁ Bd hml0 hP hK
  obtain ⟨rfl, hZ, hh, hCH⟩ := hP
  have hx := Bd.exec
  have hby := Bd.bytes
  have hret := Bd.returns
  have hlk : meth.locks = false := BodyLoose.notSynchronized Bd
  have hml : c.maxLocals = 5 := hml0
  have hown : s.vm.findClass "java/lang/String" = some m.cls := findClass_of_methodNamed Bd.named
  have hnm := (name_of_methodNamed Bd.named Bd.method).1
  have X0 : Stand p l e (own_R 2 2 4 29) (s.setVm s.vm) m #[(.ref oa), (.int 3), (.int 3)] below meth c s₁ [] 0 0 := Stand.of_body Bd
  have e0 : s₁.heap = h0 := by rw [← hh, Bd.state]; rfl
  have N0 := Fr.nil n0
  have KK0 : Keep h0 h0 [] := Keep.refl h0 _
  have hS0 : s.Since s.vm 0 := (State.WarmedH.refl s).since 0
  have hk0 : 0 ≤ h0.size := Nat.zero_le _
  have Ch0 : CHr Z consts_1 s.vm h0 s.vm h0 := CHr.refl hCH
  refine own_startH (own_Qsub4_3_3 Z oa ua c0 c1 c2 c3 h0 n0) ?_
  refine own_to (V := s₁.setTop (mkF m 0 #[sR oa, sI 3, sI 3, .unset, .unset] [])) ?_ (fun t k => castTop (own_ef_sub4_3_3 m oa ) k)
  obtain ⟨⟨G1, O2, P5⟩, ⟨G3, O4, rG3⟩, -⟩ := id hst
  obtain ⟨sk101, sE101, sV101, sC101, sK101', sb101⟩ := own_Str.latinL hS (own_lat2 (own_allS l0 (own_allS l1 (own_allS l2 (own_allS l3 own_all0)))))
  have sK101 : Arv Z h0 ua sk101 .byte (4 : Int32) [(.int (StrChars.lo8 c0)), (.int (StrChars.lo8 c1)), (.int (StrChars.lo8 c2)), (.int (StrChars.lo8 c3))] (.int (0 : Int32)) := sK101'
  refine own_to (V := s₁.setTop (mkF m 1 #[sR oa, sI 3, sI 3, .unset, .unset] [(.ref oa)])) ?_ fun t k => (by
    refine XS.aloadN X0.here hx rfl (hb hby d10_0) rfl rfl ?_
    exact k)
  obtain ⟨sE103, sd103, sN103, sk103, sv103, sV103, sC103, sK103, sc103, sb103, sl103⟩ := id hS
  obtain ⟨cq102, kq102, q102a, q102b, q102c⟩ := isOf hZ e0 sE101
  obtain ⟨_, _, ⟨T102, L102, k102, n102⟩, -, X102, ⟨Lc102, hQ102, l102, y102, z102⟩, st102⟩ := X0.virtualBack hx (y := own_mn11) (z := own_mn11) hown (mvT hZ (own_i hw 66 rfl)) (mvT hZ (own_i hw 67 rfl)) (notFace_of_selects (args := #[]) (mvT hZ (own_i hw 69 rfl))) (mvT hZ (own_i hw 69 rfl)) (mvT hZ (own_i hw 68 rfl)) (by decide) (StrChars.Road.lenW (W := 0) hZ (own_hln hw) (kI := 4) (own_i hw 2 rfl) sE103 sV103 sC103 sK103 sc103 sb103 (O2.ext X00.2) P5 sl103 (by decide) (by decide)) q102a q102c (g := (mkF m 1 #[sR oa, sI 3, sI 3, .unset, .unset] [(.ref oa)])) rfl (by rw [hml]; rfl) (Steps.refl _) (argsL := []) (rest := []) (lenOf own_pd2 rfl) rfl (by show 2 * 0 + _ ≤ _; exact Nat.le_of_eq rfl) (hb hby d10_1) (fun _ _ => ⟨rfl, e0, (by decide : 0 + 0 ≤ _), (by decide : 0 + 0 ≤ _)⟩)
  dsimp only [own_R, Pt.U, Pt.locs, Pt.cells, Pt.slots] at X102 l102 y102 z102 st102 hQ102
  subst y102 z102
  obtain ⟨hv102, hL102, hh102⟩ := hQ102
  subst hL102
  have N102 : Fr n0 L102 := by rw [l102]; exact Fr.app N0 (Fr.nil n0)
  subst hv102
  refine own_to ?_ (fun t k => st102.trans k)
  refine own_to (V := T102.setTop (mkF m 8 #[sR oa, sI 3, sI 3, sI 4, .unset] [(.int 4), (.int 3), (.int 3)])) ?_ fun t k => (by
    refine XS.istoreN X102.here hx rfl (hb hby d10_4) rfl (l' := #[sR oa, sI 3, sI 3, sI 4, .unset]) rfl ?_
    refine XS.iloadN X102.here hx rfl (hb hby d10_5) rfl ?_
    refine XS.iloadN X102.here hx rfl (hb hby d10_6) rfl ?_
    refine XS.iloadN X102.here hx rfl (hb hby d10_7) rfl ?_
    exact k)
  obtain ⟨_, T104, h104, L104, Lc104, X104, e104, hQ104, l104, st104⟩ := own_cS (own_rmcbbe l Z a0 hw hst [] (3 : Int32) (3 : Int32) (4 : Int32) h0 n0 X00 (by first | assumption | decide | omega | (simp; done) | rfl) (by first | assumption | decide | omega | (simp; done) | rfl) (by first | assumption | decide | omega | (simp; done) | rfl)) X102 hx hZ hown hh102 (own_i hw 76 rfl) (own_i hw 77 rfl) (own_i hw 3 rfl) (own_i hw 78 rfl) (by decide) (g := (mkF m 8 #[sR oa, sI 3, sI 3, sI 4, .unset] [(.int 4), (.int 3), (.int 3)])) rfl (by rw [hml]; rfl) (argsL := [(.int 3), (.int 3), (.int 4)]) (rest := []) (lenOf own_pd3 rfl) rfl rfl (hb hby d10_8) (W := 0) (Nat.le_of_eq rfl) (K := 0) (N := 0) rfl rfl (by decide) (by decide) (by decide) (by decide)
  obtain ⟨hv104, N104q, K104⟩ := hQ104
  subst hv104
  have Cs104 : CHr Z consts_1 s.vm h0 s.vm h104 := CHr.keep K104 sf0 Ch0.1
  have Ch104 := Ch0.trans Cs104
  have Xo104 := X00.keep K104 all0
  have KK104 := KK0.trans K104 all0
  have N104 := l104 _ N102 N104q
  refine own_to ?_ st104
  refine own_to (V := T104.setTop (mkF m 28 #[sR oa, sI 3, sI 3, sI 4, sI 0] [(.ref oa)])) ?_ fun t k => (by
    refine XS.iloadN X104.here hx rfl (hb hby d10_11) rfl ?_
    refine XS.ifYes X104.here hx rfl (pc0 := 12) (pc' := 22) rfl (hb hby d10_12) rfl ((if0 _ _).trans (feq ((by decide) : ¬ ((3 : Int32) = (0 : Int32)))).2) (by decide) (by decide) ?_
    refine XS.iloadN X104.here hx rfl (hb hby d10_22) rfl ?_
    refine XS.iloadN X104.here hx rfl (hb hby d10_23) rfl ?_
    refine XS.isub X104.here hx rfl (hb hby d10_24) rfl ?_
    refine XS.istore X104.here hx rfl (hb hby d10_25) rfl (l' := #[sR oa, sI 3, sI 3, sI 4, sI 0]) rfl ?_
    refine XS.aloadN X104.here hx rfl (hb hby d10_27) rfl rfl ?_
    exact k)
  have F106 := (sE101.keep K104)
  have F107 := (sC101.keep K104 List.not_mem_nil)
  obtain ⟨_, T105, h105, L105, Lc105, X105, e105, hQ105, l105, st105⟩ := own_cV (own_rmisl1 l Z a0 hw hst [] oa h104 n0 Xo104 F106 F107) X104 hx hZ hown e104 F106 (own_i hw 84 rfl) (own_i hw 85 rfl) (notFace_of_selects (args := #[]) (mvT hZ (own_i hw 87 rfl))) (own_i hw 87 rfl) (own_i hw 86 rfl) (own_i hw 3 rfl) (own_i hw 88 rfl) (by decide) (g := (mkF m 28 #[sR oa, sI 3, sI 3, sI 4, sI 0] [(.ref oa)])) rfl (by rw [hml]; rfl) (argsL := []) (rest := []) (lenOf own_pd4 rfl) rfl rfl (hb hby d10_28) (W := 0) (Nat.le_of_eq rfl) (K := 0) (N := 0) rfl rfl (by decide) (by decide) (by decide) (by decide)
  obtain ⟨hv105, N105q, K105⟩ := hQ105
  subst hv105
  have Cs105 : CHr Z consts_1 s.vm h104 s.vm h105 := CHr.keep K105 sf0 Ch104.1
  have Ch105 := Ch104.trans Cs105
  have Xo105 := Xo104.keep K105 all0
  have KK105 := KK104.trans K105 all0
  have N105 := l105 _ N104 N105q
  refine own_to ?_ st105
  refine own_to (V := T105.setTop (mkF m 35 #[sR oa, sI 3, sI 3, sI 4, sI 0] [(.ref oa)])) ?_ fun t k => (by
    refine XS.ifNo X105.here hx rfl (hb hby d10_31) rfl ((if0 _ _).trans (feq ((by decide) : ¬ ((1 : Int32) = (0 : Int32)))).1) ?_
    refine XS.aloadN X105.here hx rfl (hb hby d10_34) rfl rfl ?_
    exact k)
  have F108 := ((sV101.keep K104 List.not_mem_nil).keep K105 List.not_mem_nil)
  obtain ⟨T109, X109, e109, st109⟩ := getF X105 hx hZ hown (host := "") (Or.inl (own_i hw 28 rfl)) Via.refl e105 F108 (g := (mkF m 35 #[sR oa, sI 3, sI 3, sI 4, sI 0] [(.ref oa)])) rfl rfl (hb hby d10_35)
  refine own_to ?_ st109
  refine own_to (V := T109.setTop (mkF m 41 #[sR oa, sI 3, sI 3, sI 4, sI 0] [(.int 0), (.int 3), (.ref ua)])) ?_ fun t k => (by
    refine XS.iloadN X109.here hx rfl (hb hby d10_38) rfl ?_
    refine XS.iload X109.here hx rfl (hb hby d10_39) rfl ?_
    exact k)
  have F111 := ((sK101.keep K104 List.not_mem_nil).keep K105 List.not_mem_nil)
  obtain ⟨_, _, ⟨T110, L110, k110, n110⟩, -, X110', hS110', hg110, ⟨Lc110, hQ110, l110, y110, z110, hC110'⟩, st110⟩ := callSS X109 hx (y := own_mn9) hown (mvT hZ (own_i hw 89 rfl)) (mvT hZ (own_i hw 90 rfl)) (mvT hZ (own_i hw 91 rfl)) (mvT hZ (own_i hw 92 rfl)) (by decide) (backOfSH (W := 0) (own_rmnst4_3_0 l Z a0 hw hst [] ua sk101 c0 c1 c2 c3 h105 n0 Xo105 l0 l1 l2 l3 F111) hZ (own_i hw 92 rfl) (own_i hw 91 rfl) (by decide) (by decide) (own_hEL hw) Ch105.1) (g := (mkF m 41 #[sR oa, sI 3, sI 3, sI 4, sI 0] [(.int 0), (.int 3), (.ref ua)])) rfl (by rw [hml]; rfl) (argsL := [(.ref ua), (.int 3), (.int 0)]) (rest := []) (lenOf own_pd5 rfl) rfl (by show 2 * 0 + _ ≤ _; exact Nat.le_of_eq rfl) (hb hby d10_41) (fun _ _ => ⟨rfl, e109, (by decide : 0 + 2 ≤ _), (by decide : 0 + 4 ≤ _)⟩)
  dsimp only [own_R, Pt.U, Pt.locs, Pt.cells, Pt.slots] at X110' hS110' hg110 l110 y110 z110 st110 hQ110 hC110'
  subst y110 z110
  obtain ⟨X110, hS110, hZ110, hown110⟩ := rebS hS0 (own_hk e109 (Nat.le_trans (Nat.le_trans hk0 K104.1) K105.1)) X110' hS110' hg110 hZ hown
  obtain ⟨oo110, ou110, hv110, N110q, K110, g110_0⟩ := hQ110
  subst hv110
  obtain ⟨h110, e110⟩ : ∃ z, T110.heap = z := ⟨_, rfl⟩
  rw [e110] at K110 g110_0 hC110'
  have Cs110 : CHr Z consts_1 s.vm h105 T110.vm h110 := hC110'
  have Ch110 := Ch105.trans Cs110
  have Xo110 := Xo105.keep K110 all0
  have KK110 := KK105.trans K110 all0
  have hk110 : T110.heap.size ≤ h110.size := by rw [e110]; exact Nat.le_refl _
  have N110 : Fr n0 L110 := by rw [l110]; exact Fr.app N105 N110q
  refine own_to ?_ (fun t k => st110.trans k)
  refine own_to (V := T110.setTop (mkF m 57 #[sR oa, sI 3, sI 3, sI 4, sI 0] [(.ref oo110)])) ?_ fun t k => (by
    refine XS.goto X110.here hx rfl (pc0 := 44) (pc' := 57) rfl (hb hby d10_44) (by decide) (by decide) ?_
    exact k)
  exact own_retRH X110 hx hS110 (own_hk e110 hk110) (by rw [e110, hh]; exact Ch110.trans (CHv.at X110 hZ110 (own_hEL hw) Ch110.1)) hret (by decide) rfl hlk (hb hby d10_57) (by rw [e110]; exact (⟨oo110, ou110, rfl, N110, KK110, g110_0⟩)) (by decide) (by decide)
def own_Qtos33 (Z : State) (ow oa ua : Addr) (c0 c1 c2 c3 : Int32) (h0 : Heap) (n0 : Nat) (v : Option Value) (h : Heap) (L : List Loc) : Prop := (∃ (oo : Addr) (ou : Addr), v = some (.ref oo) ∧ Fr n0 L ∧ Keep h0 h [] ∧ (own_Str Z h oo ou ([] : List Int32)))
theorem own_ef_tos33 (m : MethodId) (ow : Addr)  : entryFrame m #[(.ref ow)] 1 = mkF m 0 #[sR ow] [] := by first | (simp [entryFrame, mkF, argsToLocals, Value.category]; done) | rfl
theorem own_rmtos33 (l : Launch) (Z : State) (a0 : Array Value) (hw : ∀ d ∈ tables_1, d.before a0 Z = true) (hst : own_St Z) (ws : List Jvm.Cond) (ow oa ua : Addr) (c0 c1 c2 c3 : Int32) (h0 : Heap) (n0 : Nat) (X00 : Old Z n0 h0) (l0 : ¬ c0 < 0 ∧ ¬ (255 : Int32) < c0) (l1 : ¬ c1 < 0 ∧ ¬ (255 : Int32) < c1) (l2 : ¬ c2 < 0 ∧ ¬ (255 : Int32) < c2) (l3 : ¬ c3 < 0 ∧ ¬ (255 : Int32) < c3) (hE : Exa Z h0 ow nm1) (f1 : Fld Z h0 ow nm1 "text" nm2 (.ref oa)) (f2 : Fld Z h0 ow nm1 "start" "I" (.int 3)) (f3 : Fld Z h0 ow nm1 "end" "I" (.int 3)) (hS : own_Str Z h0 oa ua ([c0, c1, c2, c3] : List Int32)) :
    MetFree l own_mn12 (head1 (Jvm.Cond.code own_mn12 prog_77_method_5_code 1 (Option.some (Jvm.ClassFile.FieldType.object "java/lang/String")) :: ws) (own_R 3 2 4 45)) (fun a U => a = #[(.ref ow)] ∧ Z.Warmed39 U.vm ∧ U.heap = h0 ∧ CHv Z consts_1 U.vm h0) (fun _ _ _ _ _ => True) (fun _ U o U' => ∃ v L, o = .returned v ∧ own_Qtos33 Z ow oa ua c0 c1 c2 c3 h0 n0 v U'.heap L ∧ CHr Z consts_1 U.vm U.heap U'.vm U'.heap ∧ ReturnedEndW U o U' L (own_R 3 2 4 45).cells (own_R 3 2 4 45).slots) := by
  refine MetFree.of_bodySF (plainFor_of_name own_pn4) hisR ?_
  intro p e s m args below meth c s₁ Bd hml0 hP hK
  obtain ⟨rfl, hZ, hh, hCH⟩ := hP
  have hx := Bd.exec
  have hby := Bd.bytes
  have hret := Bd.returns
  have hlk : meth.locks = false := BodyLoose.notSynchronized Bd
  have hml : c.maxLocals = 1 := hml0
  have hown : s.vm.findClass "com/example/capstrike/capstrike/TermText$Written" = some m.cls := findClass_of_methodNamed Bd.named
  have hnm := (name_of_methodNamed Bd.named Bd.method).1
  have X0 : Stand p l e (own_R 3 2 4 45) (s.setVm s.vm) m #[(.ref ow)] below meth c s₁ [] 0 0 := Stand.of_body Bd
  have e0 : s₁.heap = h0 := by rw [← hh, Bd.state]; rfl
  have N0 := Fr.nil n0
  have KK0 : Keep h0 h0 [] := Keep.refl h0 _
  have hS0 : s.Since s.vm 0 := (State.WarmedH.refl s).since 0
  have hk0 : 0 ≤ h0.size := Nat.zero_le _
  have Ch0 : CHr Z consts_1 s.vm h0 s.vm h0 := CHr.refl hCH
  refine own_startH (own_Qtos33 Z ow oa ua c0 c1 c2 c3 h0 n0) ?_
  refine own_to (V := s₁.setTop (mkF m 0 #[sR ow] [])) ?_ (fun t k => castTop (own_ef_tos33 m ow ) k)
  obtain ⟨⟨G1, O2, P5⟩, ⟨G3, O4, rG3⟩, -⟩ := id hst
  refine own_to (V := s₁.setTop (mkF m 1 #[sR ow] [(.ref ow)])) ?_ fun t k => (by
    refine XS.aloadN X0.here hx rfl (hb hby d11_0) rfl rfl ?_
    exact k)
  obtain ⟨T101, X101, e101, st101⟩ := getF X0 hx hZ hown (host := "") (Or.inl (own_i hw 50 rfl)) Via.refl e0 f1 (g := (mkF m 1 #[sR ow] [(.ref ow)])) rfl rfl (hb hby d11_1)
  refine own_to ?_ st101
  refine own_to (V := T101.setTop (mkF m 5 #[sR ow] [(.ref ow), (.ref oa)])) ?_ fun t k => (by
    refine XS.aloadN X101.here hx rfl (hb hby d11_4) rfl rfl ?_
    exact k)
  obtain ⟨T102, X102, e102, st102⟩ := getF X101 hx hZ hown (host := "") (Or.inl (own_i hw 52 rfl)) Via.refl e101 f2 (g := (mkF m 5 #[sR ow] [(.ref ow), (.ref oa)])) rfl rfl (hb hby d11_5)
  refine own_to ?_ st102
  refine own_to (V := T102.setTop (mkF m 9 #[sR ow] [(.ref ow), (.int 3), (.ref oa)])) ?_ fun t k => (by
    refine XS.aloadN X102.here hx rfl (hb hby d11_8) rfl rfl ?_
    exact k)
  obtain ⟨T103, X103, e103, st103⟩ := getF X102 hx hZ hown (host := "") (Or.inl (own_i hw 54 rfl)) Via.refl e102 f3 (g := (mkF m 9 #[sR ow] [(.ref ow), (.int 3), (.ref oa)])) rfl rfl (hb hby d11_9)
  refine own_to ?_ st103
  obtain ⟨cq104, kq104, q104a, q104b, q104c⟩ := isOf hZ e103 hS.1
  obtain ⟨_, _, ⟨T104, L104, k104, n104⟩, -, X104', hS104', hg104, ⟨Lc104, hQ104, l104, y104, z104, hC104'⟩, st104⟩ := X103.virtualBackS hx (y := own_mn10) (z := own_mn10) hown (mvT hZ (own_i hw 61 rfl)) (mvT hZ (own_i hw 62 rfl)) (notFace_of_selects (args := #[]) (mvT hZ (own_i hw 64 rfl))) (mvT hZ (own_i hw 64 rfl)) (mvT hZ (own_i hw 63 rfl)) (by decide) (backOfSH (W := 0) (own_rmsub4_3_3 l Z a0 hw hst [] oa ua c0 c1 c2 c3 h0 n0 X00 l0 l1 l2 l3 hS) hZ (own_i hw 65 rfl) (own_i hw 3 rfl) (by decide) (by decide) (own_hEL hw) Ch0.1) q104a q104c (g := (mkF m 12 #[sR ow] [(.int 3), (.int 3), (.ref oa)])) rfl (by rw [hml]; rfl) (Steps.refl _) (argsL := [(.int 3), (.int 3)]) (rest := []) (lenOf own_pd6 rfl) rfl (by show 2 * 0 + _ ≤ _; exact Nat.le_of_eq rfl) (hb hby d11_12) (fun _ _ => ⟨rfl, e103, (by decide : 0 + 2 ≤ _), (by decide : 0 + 4 ≤ _)⟩)
  dsimp only [own_R, Pt.U, Pt.locs, Pt.cells, Pt.slots] at X104' hS104' hg104 l104 y104 z104 st104 hQ104 hC104'
  subst y104 z104
  obtain ⟨X104, hS104, hZ104, hown104⟩ := rebS hS0 (own_hk e103 hk0) X104' hS104' hg104 hZ hown
  obtain ⟨oo104, ou104, hv104, N104q, K104, g104_0⟩ := hQ104
  subst hv104
  obtain ⟨h104, e104⟩ : ∃ z, T104.heap = z := ⟨_, rfl⟩
  rw [e104] at K104 g104_0 hC104'
  have Cs104 : CHr Z consts_1 s.vm h0 T104.vm h104 := hC104'
  have Ch104 := Ch0.trans Cs104
  have Xo104 := X00.keep K104 all0
  have KK104 := KK0.trans K104 all0
  have hk104 : T104.heap.size ≤ h104.size := by rw [e104]; exact Nat.le_refl _
  have N104 : Fr n0 L104 := by rw [l104]; exact Fr.app N0 N104q
  refine own_to ?_ (fun t k => st104.trans k)
  exact own_retRH X104 hx hS104 (own_hk e104 hk104) (by rw [e104, hh]; exact Ch104.trans (CHv.at X104 hZ104 (own_hEL hw) Ch104.1)) hret (by decide) rfl hlk (hb hby d11_15) (by rw [e104]; exact (⟨oo104, ou104, rfl, N104, KK104, g104_0⟩)) (by decide) (by decide)
def own_Qcrb4_3_4 (Z : State) (ob : Addr) (kb : ClassId) (d0 d1 d2 d3 : Int32) (h0 : Heap) (n0 : Nat) (v : Option Value) (h : Heap) (L : List Loc) : Prop := (∃ (oo : Addr) (ko : ClassId), v = some (.ref oo) ∧ Fr n0 L ∧ Keep h0 h [] ∧ (Arv Z h oo ko .byte (1 : Int32) [(.int d3)] (.int (0 : Int32))) ∧ (h0.size ≤ oo))
theorem own_ef_crb4_3_4 (m : MethodId) (ob : Addr)  : entryFrame m #[(.ref ob), (.int 3), (.int 4)] 5 = mkF m 0 #[sR ob, sI 3, sI 4, .unset, .unset] [] := by first | (simp [entryFrame, mkF, argsToLocals, Value.category]; done) | rfl
theorem own_rmcrb4_3_4 (l : Launch) (Z : State) (a0 : Array Value) (hw : ∀ d ∈ tables_1, d.before a0 Z = true) (hst : own_St Z) (ws : List Jvm.Cond) (ob : Addr) (kb : ClassId) (d0 d1 d2 d3 : Int32) (h0 : Heap) (n0 : Nat) (X00 : Old Z n0 h0) (hA : Arv Z h0 ob kb .byte (4 : Int32) [(.int d0), (.int d1), (.int d2), (.int d3)] (.int (0 : Int32))) :
    own_MF l own_mn13 jdk_65_method_133_code 5 (Option.some (Jvm.ClassFile.FieldType.array Jvm.ClassFile.FieldType.byte)) ws (own_R 1 1 1 18) #[(.ref ob), (.int 3), (.int 4)] Z h0 (own_Qcrb4_3_4 Z ob kb d0 d1 d2 d3 h0 n0) := by
  refine own_body (plainFor_of_name own_pn0) (fun m => own_ef_crb4_3_4 m ob ) ?_
  intro p e s m below meth c s₁ hx hby hret hlk hml hZ hown hnm hh X0 e0
  have N0 := Fr.nil n0
  have KK0 : Keep h0 h0 [] := Keep.refl h0 _
  obtain ⟨⟨G1, O2, P5⟩, ⟨G3, O4, rG3⟩, -⟩ := id hst
  refine own_to (V := s₁.setTop (mkF m 2 #[sR ob, sI 3, sI 4, .unset, .unset] [(.int 4), (.int 3)])) ?_ fun t k => (by
    refine XS.iloadN X0.here hx rfl (hb hby d12_0) rfl ?_
    refine XS.iloadN X0.here hx rfl (hb hby d12_1) rfl ?_
    exact k)
  obtain ⟨_, T101, h101, L101, Lc101, X101, e101, hQ101, l101, st101⟩ := own_cS (own_rmckl l Z a0 hw hst [] (3 : Int32) (4 : Int32) h0 n0 X00 (by first | assumption | decide | omega | (simp; done) | rfl)) X0 hx hZ hown e0 (own_i hw 101 rfl) (own_i hw 102 rfl) (own_i hw 96 rfl) (own_i hw 103 rfl) (by decide) (g := (mkF m 2 #[sR ob, sI 3, sI 4, .unset, .unset] [(.int 4), (.int 3)])) rfl (by rw [hml]; rfl) (argsL := [(.int 3), (.int 4)]) (rest := []) (lenOf own_pd7 rfl) rfl rfl (hb hby d12_2) (W := 0) (Nat.le_of_eq rfl) (K := 0) (N := 0) rfl rfl (by decide) (by decide) (by decide) (by decide)
  obtain ⟨hv101, N101q, K101⟩ := hQ101
  subst hv101
  have Xo101 := X00.keep K101 all0
  have KK101 := KK0.trans K101 all0
  have N101 := l101 _ N0 N101q
  refine own_to ?_ st101
  refine own_to (V := T101.setTop (mkF m 10 #[sR ob, sI 3, sI 4, sI 1, .unset] [(.int 1)])) ?_ fun t k => (by
    refine XS.iloadN X101.here hx rfl (hb hby d12_5) rfl ?_
    refine XS.iloadN X101.here hx rfl (hb hby d12_6) rfl ?_
    refine XS.isub X101.here hx rfl (hb hby d12_7) rfl ?_
    refine XS.istoreN X101.here hx rfl (hb hby d12_8) rfl (l' := #[sR ob, sI 3, sI 4, sI 1, .unset]) rfl ?_
    refine XS.iloadN X101.here hx rfl (hb hby d12_9) rfl ?_
    exact k)
  obtain ⟨T102, h102, k102, X102, e102, E102, A102, st102⟩ := newP X101 hx hZ (own_i hw 19 rfl) e101 (g := (mkF m 10 #[sR ob, sI 3, sI 4, sI 1, .unset] [(.int 1)])) rfl (hb hby d12_10) rfl (by decide) (cap := 1) (by decide) (by decide) (by decide) (by decide)
  obtain ⟨b102, g102⟩ : ∃ z, z = h101.size := ⟨_, rfl⟩
  rw [← g102] at A102 st102
  have Xo102 := Xo101.ext E102
  have KK102 := KK101.ext E102
  have ge_b102 := Nat.le_trans (own_ole Xo101) (Nat.le_of_eq g102.symm)
  have sz_b102 := Nat.le_trans KK101.1 (Nat.le_of_eq g102.symm)
  have V102 : Arv Z h102 b102 k102 .byte (1 : Int32) [(.int 0)] (.int (0 : Int32)) := (Arv.new A102 (by decide)).pad (pad_rep [] (.int (0 : Int32)) 1)
  refine own_to ?_ st102
  refine own_to (V := T102.setTop (mkF m 20 #[sR ob, sI 3, sI 4, sI 1, sR b102] [(.ref ob), (.int 0), (.ref b102), (.int 3), (.ref ob)])) ?_ fun t k => (by
    refine XS.astore X102.here hx rfl (hb hby d12_12) rfl rfl (l' := #[sR ob, sI 3, sI 4, sI 1, sR b102]) rfl ?_
    refine XS.aloadN X102.here hx rfl (hb hby d12_14) rfl rfl ?_
    refine XS.iloadN X102.here hx rfl (hb hby d12_15) rfl ?_
    refine XS.aload X102.here hx rfl (hb hby d12_16) rfl rfl ?_
    refine XS.iconst X102.here hx rfl (hb hby d12_18) ?_
    refine XS.aloadN X102.here hx rfl (hb hby d12_19) rfl rfl ?_
    exact k)
  have F103 := ((hA.keep K101 List.not_mem_nil).ext E102)
  obtain ⟨cl104, Ar104, q104, S104, M104, H104, G104⟩ := id F103
  refine own_to (V := T102.setTop (mkF m 21 #[sR ob, sI 3, sI 4, sI 1, sR b102] [(.int 4), (.int 0), (.ref b102), (.int 3), (.ref ob)])) ?_ (fun t k => X102.arraylength hx (by rw [e102]; exact Ar104.1) (State.isArrayOf_alike hZ.alike Ar104.2.1) (g := (mkF m 20 #[sR ob, sI 3, sI 4, sI 1, sR b102] [(.ref ob), (.int 0), (.ref b102), (.int 3), (.ref ob)])) rfl rfl (hb hby d12_20) t (by rw [len_of S104 M104]; exact k))
  refine own_to (V := T102.setTop (mkF m 24 #[sR ob, sI 3, sI 4, sI 1, sR b102] [(.int 1), (.int 1), (.int 0), (.ref b102), (.int 3), (.ref ob)])) ?_ fun t k => (by
    refine XS.iloadN X102.here hx rfl (hb hby d12_21) rfl ?_
    refine XS.isub X102.here hx rfl (hb hby d12_22) rfl ?_
    refine XS.iloadN X102.here hx rfl (hb hby d12_23) rfl ?_
    exact k)
  obtain ⟨_, T105, h105, L105, Lc105, X105, e105, hQ105, l105, st105⟩ := own_cS (own_rmmamin l Z a0 hw hst [] (1 : Int32) (1 : Int32) h102 n0 Xo102 ) X102 hx hZ hown e102 (own_i hw 104 rfl) (own_i hw 32 rfl) (own_i hw 33 rfl) (own_i hw 34 rfl) (by decide) (g := (mkF m 24 #[sR ob, sI 3, sI 4, sI 1, sR b102] [(.int 1), (.int 1), (.int 0), (.ref b102), (.int 3), (.ref ob)])) rfl (by rw [hml]; rfl) (argsL := [(.int 1), (.int 1)]) (rest := [(.int 0), (.ref b102), (.int 3), (.ref ob)]) (lenOf own_pd8 rfl) rfl rfl (hb hby d12_24) (W := 4) (Nat.le_of_eq rfl) (K := 1) (N := 1) rfl rfl (by decide) (by decide) (by decide) (by decide)
  rcases hQ105 with ⟨hv105, N105q, K105, g105_0⟩ | ⟨hv105, N105q, K105, g105_0⟩
  ·skip
   subst hv105
   have Xo105 := Xo102.keep K105 all0
   have KK105 := KK102.trans K105 all0
   have N105 := l105 _ N101 N105q
   refine own_to ?_ st105
   have F107 := (F103.keep K105 List.not_mem_nil)
   have F108 := (V102.keep K105 List.not_mem_nil)
   obtain ⟨T106, h106, L106, X106, e106, N106, K106, V106', st106⟩ := cpA X105 hx hZ hown (own_i hw 105 rfl) (own_i hw 108 rfl) (own_i hw 106 rfl) (own_i hw 107 rfl) e105 (sp := (3 : Int32)) (dp := (0 : Int32)) (nn := (1 : Int32)) (us := [(.int d3)]) F107 F108 (Or.inl ⟨rfl, rfl⟩) (by decide) (by decide) (by decide) (by decide) (by decide) rfl (Nat.le_of_ble_eq_true rfl) N105 ge_b102 (g := (mkF m 27 #[sR ob, sI 3, sI 4, sI 1, sR b102] [(.int 1), (.int 0), (.ref b102), (.int 3), (.ref ob)])) rfl (by rw [hml]; rfl) (rest := []) rfl (hb hby d12_27) (by decide) (W := 0) (by show 2 * 0 + _ ≤ _; exact Nat.le_of_eq rfl) (by decide)
   have Xo106 := Xo105.keep K106 (allS ge_b102 all0)
   have KK106 := KK105.trans K106 (allS (Or.inr sz_b102) all0)
   have V106 : Arv Z h106 b102 k102 .byte (1 : Int32) [(.int d3)] (.int (0 : Int32)) := V106'
   refine own_to ?_ st106
   refine own_to (V := T106.setTop (mkF m 32 #[sR ob, sI 3, sI 4, sI 1, sR b102] [(.ref b102)])) ?_ fun t k => (by
     refine XS.aload X106.here hx rfl (hb hby d12_30) rfl rfl ?_
     exact k)
   exact own_retR X106 hx hret (by decide) rfl hlk (hb hby d12_32) (by rw [e106]; exact (⟨b102, k102, rfl, N106, KK106, V106, sz_b102⟩)) (by decide) (by decide)
  ·skip
   subst hv105
   have Xo105 := Xo102.keep K105 all0
   have KK105 := KK102.trans K105 all0
   have N105 := l105 _ N101 N105q
   exact absurd g105_0 (by decide)
def own_Qcor4_3_4 (Z : State) (ob : Addr) (kb : ClassId) (d0 d1 d2 d3 : Int32) (h0 : Heap) (n0 : Nat) (v : Option Value) (h : Heap) (L : List Loc) : Prop := (∃ (oo : Addr) (ko : ClassId), v = some (.ref oo) ∧ Fr n0 L ∧ Keep h0 h [] ∧ (Arv Z h oo ko .byte (1 : Int32) [(.int d3)] (.int (0 : Int32))) ∧ (h0.size ≤ oo))
theorem own_ef_cor4_3_4 (m : MethodId) (ob : Addr)  : entryFrame m #[(.ref ob), (.int 3), (.int 4)] 3 = mkF m 0 #[sR ob, sI 3, sI 4] [] := by first | (simp [entryFrame, mkF, argsToLocals, Value.category]; done) | rfl
theorem own_rmcor4_3_4 (l : Launch) (Z : State) (a0 : Array Value) (hw : ∀ d ∈ tables_1, d.before a0 Z = true) (hst : own_St Z) (ws : List Jvm.Cond) (ob : Addr) (kb : ClassId) (d0 d1 d2 d3 : Int32) (h0 : Heap) (n0 : Nat) (X00 : Old Z n0 h0) (hA : Arv Z h0 ob kb .byte (4 : Int32) [(.int d0), (.int d1), (.int d2), (.int d3)] (.int (0 : Int32))) :
    own_MF l own_mn14 jdk_65_method_132_code 3 (Option.some (Jvm.ClassFile.FieldType.array Jvm.ClassFile.FieldType.byte)) ws (own_R 2 1 1 34) #[(.ref ob), (.int 3), (.int 4)] Z h0 (own_Qcor4_3_4 Z ob kb d0 d1 d2 d3 h0 n0) := by
  refine own_body (plainFor_of_name own_pn0) (fun m => own_ef_cor4_3_4 m ob ) ?_
  intro p e s m below meth c s₁ hx hby hret hlk hml hZ hown hnm hh X0 e0
  have N0 := Fr.nil n0
  have KK0 : Keep h0 h0 [] := Keep.refl h0 _
  obtain ⟨⟨G1, O2, P5⟩, ⟨G3, O4, rG3⟩, -⟩ := id hst
  refine own_to (V := s₁.setTop (mkF m 13 #[sR ob, sI 3, sI 4] [(.int 4), (.int 3), (.ref ob)])) ?_ fun t k => (by
    refine XS.iloadN X0.here hx rfl (hb hby d13_0) rfl ?_
    refine XS.ifYes X0.here hx rfl (pc0 := 1) (pc' := 10) rfl (hb hby d13_1) rfl ((if0 _ _).trans (feq ((by decide) : ¬ ((3 : Int32) = (0 : Int32)))).2) (by decide) (by decide) ?_
    refine XS.aloadN X0.here hx rfl (hb hby d13_10) rfl rfl ?_
    refine XS.iloadN X0.here hx rfl (hb hby d13_11) rfl ?_
    refine XS.iloadN X0.here hx rfl (hb hby d13_12) rfl ?_
    exact k)
  obtain ⟨_, T101, h101, L101, Lc101, X101, e101, hQ101, l101, st101⟩ := own_cS (own_rmcrb4_3_4 l Z a0 hw hst [] ob kb d0 d1 d2 d3 h0 n0 X00 hA) X0 hx hZ hown e0 (own_i hw 98 rfl) (own_i hw 99 rfl) (own_i hw 96 rfl) (own_i hw 100 rfl) (by decide) (g := (mkF m 13 #[sR ob, sI 3, sI 4] [(.int 4), (.int 3), (.ref ob)])) rfl (by rw [hml]; rfl) (argsL := [(.ref ob), (.int 3), (.int 4)]) (rest := []) (lenOf own_pd9 rfl) rfl rfl (hb hby d13_13) (W := 0) (Nat.le_of_eq rfl) (K := 1) (N := 1) rfl rfl (by decide) (by decide) (by decide) (by decide)
  obtain ⟨oo101, ko101, hv101, N101q, K101, g101_0, g101_1⟩ := hQ101
  subst hv101
  have Xo101 := X00.keep K101 all0
  have KK101 := KK0.trans K101 all0
  have N101 := l101 _ N0 N101q
  have ge_oo101 := Nat.le_trans (own_ole X00) g101_1
  have sz_oo101 := Nat.le_trans KK0.1 g101_1
  refine own_to ?_ st101
  exact own_retR X101 hx hret (by decide) rfl hlk (hb hby d13_16) (by rw [e101]; exact (⟨oo101, ko101, rfl, N101, KK101, g101_0, sz_oo101⟩)) (by decide) (by decide)
def own_Qnst4_3_1 (Z : State) (ob : Addr) (kb : ClassId) (c0 c1 c2 c3 : Int32) (h0 : Heap) (n0 : Nat) (v : Option Value) (h : Heap) (L : List Loc) : Prop := (∃ (oo : Addr) (ou : Addr), v = some (.ref oo) ∧ Fr n0 L ∧ Keep h0 h [] ∧ (own_Str Z h oo ou ([c3] : List Int32)))
theorem own_ef_nst4_3_1 (m : MethodId) (ob : Addr)  : entryFrame m #[(.ref ob), (.int 3), (.int 1)] 3 = mkF m 0 #[sR ob, sI 3, sI 1] [] := by first | (simp [entryFrame, mkF, argsToLocals, Value.category]; done) | rfl
theorem own_rmnst4_3_1 (l : Launch) (Z : State) (a0 : Array Value) (hw : ∀ d ∈ tables_1, d.before a0 Z = true) (hst : own_St Z) (ws : List Jvm.Cond) (ob : Addr) (kb : ClassId) (c0 c1 c2 c3 : Int32) (h0 : Heap) (n0 : Nat) (X00 : Old Z n0 h0) (l0 : ¬ c0 < 0 ∧ ¬ (255 : Int32) < c0) (l1 : ¬ c1 < 0 ∧ ¬ (255 : Int32) < c1) (l2 : ¬ c2 < 0 ∧ ¬ (255 : Int32) < c2) (l3 : ¬ c3 < 0 ∧ ¬ (255 : Int32) < c3) (hA : Arv Z h0 ob kb .byte (4 : Int32) [(.int (StrChars.lo8 c0)), (.int (StrChars.lo8 c1)), (.int (StrChars.lo8 c2)), (.int (StrChars.lo8 c3))] (.int (0 : Int32))) :
    own_MF l own_mn9 jdk_43_method_47_code 3 (Option.some (Jvm.ClassFile.FieldType.object "java/lang/String")) ws (own_R 3 2 5 50) #[(.ref ob), (.int 3), (.int 1)] Z h0 (own_Qnst4_3_1 Z ob kb c0 c1 c2 c3 h0 n0) := by
  refine own_body (plainFor_of_name own_pn5) (fun m => own_ef_nst4_3_1 m ob ) ?_
  intro p e s m below meth c s₁ hx hby hret hlk hml hZ hown hnm hh X0 e0
  have N0 := Fr.nil n0
  have KK0 : Keep h0 h0 [] := Keep.refl h0 _
  obtain ⟨⟨G1, O2, P5⟩, ⟨G3, O4, rG3⟩, -⟩ := id hst
  refine own_to (V := s₁.setTop (mkF m 7 #[sR ob, sI 3, sI 1] [])) ?_ fun t k => (by
    refine XS.iloadN X0.here hx rfl (hb hby d9_0) rfl ?_
    refine XS.ifYes X0.here hx rfl (pc0 := 1) (pc' := 7) rfl (hb hby d9_1) rfl ((if0 _ _).trans (feq ((by decide) : ¬ ((1 : Int32) = (0 : Int32)))).2) (by decide) (by decide) ?_
    exact k)
  obtain ⟨T101, h101, X101, e101, E101, A101, D101, U101, st101⟩ := newO X0 hx hZ hown (own_i hw 93 rfl) (own_i hw 2 rfl) (own_i hw 3 rfl) e0 (g := (mkF m 7 #[sR ob, sI 3, sI 1] [])) rfl (hb hby d9_7) (by decide) (by decide)
  obtain ⟨b101, g101⟩ : ∃ z, z = h0.size := ⟨_, rfl⟩
  rw [← g101] at A101 D101 U101 st101
  have Xo101 := X00.ext E101
  have KK101 := KK0.ext E101
  have ge_b101 := Nat.le_trans (own_ole X00) (Nat.le_of_eq g101.symm)
  have sz_b101 := Nat.le_trans KK0.1 (Nat.le_of_eq g101.symm)
  have Fi101_27 : Fld Z h101 b101 nm0 "coder" "B" (.int 0) := D101 (Or.inr (own_i hw 27 rfl)) (ty := .byte) (by decide)
  have Fi101_29 : Fld Z h101 b101 nm0 "value" "[B" .null := D101 (Or.inr (own_i hw 29 rfl)) (ty := (.array .byte)) (by decide)
  refine own_to ?_ st101
  refine own_to (V := T101.setTop (mkF m 16 #[sR ob, sI 3, sI 1] [(.int 4), (.int 3), (.ref ob), (.ref b101), (.ref b101)])) ?_ fun t k => (by
    refine XS.dup X101.here hx rfl (hb hby d9_10) rfl rfl ?_
    refine XS.aloadN X101.here hx rfl (hb hby d9_11) rfl rfl ?_
    refine XS.iloadN X101.here hx rfl (hb hby d9_12) rfl ?_
    refine XS.iloadN X101.here hx rfl (hb hby d9_13) rfl ?_
    refine XS.iloadN X101.here hx rfl (hb hby d9_14) rfl ?_
    refine XS.iadd X101.here hx rfl (hb hby d9_15) rfl ?_
    exact k)
  have F103 := (hA.ext E101)
  obtain ⟨_, T102, h102, L102, Lc102, X102, e102, hQ102, l102, st102⟩ := own_cS (own_rmcor4_3_4 l Z a0 hw hst [] ob kb (StrChars.lo8 c0) (StrChars.lo8 c1) (StrChars.lo8 c2) (StrChars.lo8 c3) h101 n0 Xo101 F103) X101 hx hZ hown e101 (own_i hw 94 rfl) (own_i hw 95 rfl) (own_i hw 96 rfl) (own_i hw 97 rfl) (by decide) (g := (mkF m 16 #[sR ob, sI 3, sI 1] [(.int 4), (.int 3), (.ref ob), (.ref b101), (.ref b101)])) rfl (by rw [hml]; rfl) (argsL := [(.ref ob), (.int 3), (.int 4)]) (rest := [(.ref b101), (.ref b101)]) (lenOf own_pd9 rfl) rfl rfl (hb hby d9_16) (W := 2) (Nat.le_of_eq rfl) (K := 2) (N := 5) rfl rfl (by decide) (by decide) (by decide) (by decide)
  obtain ⟨oo102, ko102, hv102, N102q, K102, g102_0, g102_1⟩ := hQ102
  subst hv102
  have Xo102 := Xo101.keep K102 all0
  have KK102 := KK101.trans K102 all0
  have N102 := l102 _ N0 N102q
  have ge_oo102 := Nat.le_trans (own_ole Xo101) g102_1
  have sz_oo102 := Nat.le_trans KK101.1 g102_1
  refine own_to ?_ st102
  refine own_to (V := T102.setTop (mkF m 20 #[sR ob, sI 3, sI 1] [(.int 0), (.ref oo102), (.ref b101), (.ref b101)])) ?_ fun t k => (by
    refine XS.iconst X102.here hx rfl (hb hby d9_19) ?_
    exact k)
  have F105 := (A101.keep K102)
  have F106 := (Fi101_29.keep K102 List.not_mem_nil)
  have F107 := (Fi101_27.keep K102 List.not_mem_nil)
  obtain ⟨_, T104, h104, L104, Lc104, X104, e104, hQ104, l104, st104⟩ := own_cI (own_rmsibb l Z a0 hw hst [] b101 oo102 h102 n0 Xo102 F105 F106 F107 ge_b101) X102 hx hZ hown e102 rfl (own_i hw 109 rfl) (own_i hw 110 rfl) (own_i hw 3 rfl) (own_i hw 111 rfl) (by decide) (g := (mkF m 20 #[sR ob, sI 3, sI 1] [(.int 0), (.ref oo102), (.ref b101), (.ref b101)])) rfl (by rw [hml]; rfl) (argsL := [(.ref oo102), (.int 0)]) (rest := [(.ref b101)]) (lenOf own_pd10 rfl) rfl rfl (hb hby d9_20) (W := 1) (Nat.le_of_eq rfl) (K := 2) (N := 5) rfl rfl (by decide) (by decide) (by decide) (by decide)
  obtain ⟨hv104, N104q, K104, g104_0, g104_1⟩ := hQ104
  subst hv104
  have Xo104 := Xo102.keep K104 (allS ge_b101 all0)
  have KK104 := KK102.trans K104 (allS (Or.inr sz_b101) all0)
  have N104 := l104 _ N102 N104q
  refine own_to ?_ st104
  have F109 := (F105.keep K104)
  have F110 := (g102_0.keep K104 (own_nmS (Ne.symm (Nat.ne_of_lt (Nat.lt_of_lt_of_le A101.lt g102_1))) own_nm0))
  have Fz108 : own_Str Z h104 b101 oo102 ([c3] : List Int32) := own_mkLit F109 g104_0 g104_1 F110 rfl (own_allS l3 own_all0) rfl (Nat.le_of_ble_eq_true rfl)
  exact own_retR X104 hx hret (by decide) rfl hlk (hb hby d9_23) (by rw [e104]; exact (⟨b101, oo102, rfl, N104, KK104, Fz108⟩)) (by decide) (by decide)
def own_Qsub4_3_4 (Z : State) (oa ua : Addr) (c0 c1 c2 c3 : Int32) (h0 : Heap) (n0 : Nat) (v : Option Value) (h : Heap) (L : List Loc) : Prop := (∃ (oo : Addr) (ou : Addr), v = some (.ref oo) ∧ Fr n0 L ∧ Keep h0 h [] ∧ (own_Str Z h oo ou ([c3] : List Int32)))
theorem own_ef_sub4_3_4 (m : MethodId) (oa : Addr)  : entryFrame m #[(.ref oa), (.int 3), (.int 4)] 5 = mkF m 0 #[sR oa, sI 3, sI 4, .unset, .unset] [] := by first | (simp [entryFrame, mkF, argsToLocals, Value.category]; done) | rfl
theorem own_rmsub4_3_4 (l : Launch) (Z : State) (a0 : Array Value) (hw : ∀ d ∈ tables_1, d.before a0 Z = true) (hst : own_St Z) (ws : List Jvm.Cond) (oa ua : Addr) (c0 c1 c2 c3 : Int32) (h0 : Heap) (n0 : Nat) (X00 : Old Z n0 h0) (l0 : ¬ c0 < 0 ∧ ¬ (255 : Int32) < c0) (l1 : ¬ c1 < 0 ∧ ¬ (255 : Int32) < c1) (l2 : ¬ c2 < 0 ∧ ¬ (255 : Int32) < c2) (l3 : ¬ c3 < 0 ∧ ¬ (255 : Int32) < c3) (hS : own_Str Z h0 oa ua ([c0, c1, c2, c3] : List Int32)) :
    own_MF l own_mn10 jdk_42_method_92_code 5 (Option.some (Jvm.ClassFile.FieldType.object "java/lang/String")) ws (own_R 4 2 5 64) #[(.ref oa), (.int 3), (.int 4)] Z h0 (own_Qsub4_3_4 Z oa ua c0 c1 c2 c3 h0 n0) := by
  refine own_body (plainFor_of_name own_pn2) (fun m => own_ef_sub4_3_4 m oa ) ?_
  intro p e s m below meth c s₁ hx hby hret hlk hml hZ hown hnm hh X0 e0
  have N0 := Fr.nil n0
  have KK0 : Keep h0 h0 [] := Keep.refl h0 _
  obtain ⟨⟨G1, O2, P5⟩, ⟨G3, O4, rG3⟩, -⟩ := id hst
  obtain ⟨sk101, sE101, sV101, sC101, sK101', sb101⟩ := own_Str.latinL hS (own_lat2 (own_allS l0 (own_allS l1 (own_allS l2 (own_allS l3 own_all0)))))
  have sK101 : Arv Z h0 ua sk101 .byte (4 : Int32) [(.int (StrChars.lo8 c0)), (.int (StrChars.lo8 c1)), (.int (StrChars.lo8 c2)), (.int (StrChars.lo8 c3))] (.int (0 : Int32)) := sK101'
  refine own_to (V := s₁.setTop (mkF m 1 #[sR oa, sI 3, sI 4, .unset, .unset] [(.ref oa)])) ?_ fun t k => (by
    refine XS.aloadN X0.here hx rfl (hb hby d10_0) rfl rfl ?_
    exact k)
  obtain ⟨sE103, sd103, sN103, sk103, sv103, sV103, sC103, sK103, sc103, sb103, sl103⟩ := id hS
  obtain ⟨cq102, kq102, q102a, q102b, q102c⟩ := isOf hZ e0 sE101
  obtain ⟨_, _, ⟨T102, L102, k102, n102⟩, -, X102, ⟨Lc102, hQ102, l102, y102, z102⟩, st102⟩ := X0.virtualBack hx (y := own_mn11) (z := own_mn11) hown (mvT hZ (own_i hw 66 rfl)) (mvT hZ (own_i hw 67 rfl)) (notFace_of_selects (args := #[]) (mvT hZ (own_i hw 69 rfl))) (mvT hZ (own_i hw 69 rfl)) (mvT hZ (own_i hw 68 rfl)) (by decide) (StrChars.Road.lenW (W := 0) hZ (own_hln hw) (kI := 4) (own_i hw 2 rfl) sE103 sV103 sC103 sK103 sc103 sb103 (O2.ext X00.2) P5 sl103 (by decide) (by decide)) q102a q102c (g := (mkF m 1 #[sR oa, sI 3, sI 4, .unset, .unset] [(.ref oa)])) rfl (by rw [hml]; rfl) (Steps.refl _) (argsL := []) (rest := []) (lenOf own_pd2 rfl) rfl (by show 2 * 0 + _ ≤ _; exact Nat.le_of_eq rfl) (hb hby d10_1) (fun _ _ => ⟨rfl, e0, (by decide : 0 + 0 ≤ _), (by decide : 0 + 0 ≤ _)⟩)
  dsimp only [own_R, Pt.U, Pt.locs, Pt.cells, Pt.slots] at X102 l102 y102 z102 st102 hQ102
  subst y102 z102
  obtain ⟨hv102, hL102, hh102⟩ := hQ102
  subst hL102
  have N102 : Fr n0 L102 := by rw [l102]; exact Fr.app N0 (Fr.nil n0)
  subst hv102
  refine own_to ?_ (fun t k => st102.trans k)
  refine own_to (V := T102.setTop (mkF m 8 #[sR oa, sI 3, sI 4, sI 4, .unset] [(.int 4), (.int 4), (.int 3)])) ?_ fun t k => (by
    refine XS.istoreN X102.here hx rfl (hb hby d10_4) rfl (l' := #[sR oa, sI 3, sI 4, sI 4, .unset]) rfl ?_
    refine XS.iloadN X102.here hx rfl (hb hby d10_5) rfl ?_
    refine XS.iloadN X102.here hx rfl (hb hby d10_6) rfl ?_
    refine XS.iloadN X102.here hx rfl (hb hby d10_7) rfl ?_
    exact k)
  obtain ⟨_, T104, h104, L104, Lc104, X104, e104, hQ104, l104, st104⟩ := own_cS (own_rmcbbe l Z a0 hw hst [] (3 : Int32) (4 : Int32) (4 : Int32) h0 n0 X00 (by first | assumption | decide | omega | (simp; done) | rfl) (by first | assumption | decide | omega | (simp; done) | rfl) (by first | assumption | decide | omega | (simp; done) | rfl)) X102 hx hZ hown hh102 (own_i hw 76 rfl) (own_i hw 77 rfl) (own_i hw 3 rfl) (own_i hw 78 rfl) (by decide) (g := (mkF m 8 #[sR oa, sI 3, sI 4, sI 4, .unset] [(.int 4), (.int 4), (.int 3)])) rfl (by rw [hml]; rfl) (argsL := [(.int 3), (.int 4), (.int 4)]) (rest := []) (lenOf own_pd3 rfl) rfl rfl (hb hby d10_8) (W := 0) (Nat.le_of_eq rfl) (K := 0) (N := 0) rfl rfl (by decide) (by decide) (by decide) (by decide)
  obtain ⟨hv104, N104q, K104⟩ := hQ104
  subst hv104
  have Xo104 := X00.keep K104 all0
  have KK104 := KK0.trans K104 all0
  have N104 := l104 _ N102 N104q
  refine own_to ?_ st104
  refine own_to (V := T104.setTop (mkF m 28 #[sR oa, sI 3, sI 4, sI 4, sI 1] [(.ref oa)])) ?_ fun t k => (by
    refine XS.iloadN X104.here hx rfl (hb hby d10_11) rfl ?_
    refine XS.ifYes X104.here hx rfl (pc0 := 12) (pc' := 22) rfl (hb hby d10_12) rfl ((if0 _ _).trans (feq ((by decide) : ¬ ((3 : Int32) = (0 : Int32)))).2) (by decide) (by decide) ?_
    refine XS.iloadN X104.here hx rfl (hb hby d10_22) rfl ?_
    refine XS.iloadN X104.here hx rfl (hb hby d10_23) rfl ?_
    refine XS.isub X104.here hx rfl (hb hby d10_24) rfl ?_
    refine XS.istore X104.here hx rfl (hb hby d10_25) rfl (l' := #[sR oa, sI 3, sI 4, sI 4, sI 1]) rfl ?_
    refine XS.aloadN X104.here hx rfl (hb hby d10_27) rfl rfl ?_
    exact k)
  have F106 := (sE101.keep K104)
  have F107 := (sC101.keep K104 List.not_mem_nil)
  obtain ⟨_, T105, h105, L105, Lc105, X105, e105, hQ105, l105, st105⟩ := own_cV (own_rmisl1 l Z a0 hw hst [] oa h104 n0 Xo104 F106 F107) X104 hx hZ hown e104 F106 (own_i hw 84 rfl) (own_i hw 85 rfl) (notFace_of_selects (args := #[]) (mvT hZ (own_i hw 87 rfl))) (own_i hw 87 rfl) (own_i hw 86 rfl) (own_i hw 3 rfl) (own_i hw 88 rfl) (by decide) (g := (mkF m 28 #[sR oa, sI 3, sI 4, sI 4, sI 1] [(.ref oa)])) rfl (by rw [hml]; rfl) (argsL := []) (rest := []) (lenOf own_pd4 rfl) rfl rfl (hb hby d10_28) (W := 0) (Nat.le_of_eq rfl) (K := 0) (N := 0) rfl rfl (by decide) (by decide) (by decide) (by decide)
  obtain ⟨hv105, N105q, K105⟩ := hQ105
  subst hv105
  have Xo105 := Xo104.keep K105 all0
  have KK105 := KK104.trans K105 all0
  have N105 := l105 _ N104 N105q
  refine own_to ?_ st105
  refine own_to (V := T105.setTop (mkF m 35 #[sR oa, sI 3, sI 4, sI 4, sI 1] [(.ref oa)])) ?_ fun t k => (by
    refine XS.ifNo X105.here hx rfl (hb hby d10_31) rfl ((if0 _ _).trans (feq ((by decide) : ¬ ((1 : Int32) = (0 : Int32)))).1) ?_
    refine XS.aloadN X105.here hx rfl (hb hby d10_34) rfl rfl ?_
    exact k)
  have F108 := ((sV101.keep K104 List.not_mem_nil).keep K105 List.not_mem_nil)
  obtain ⟨T109, X109, e109, st109⟩ := getF X105 hx hZ hown (host := "") (Or.inl (own_i hw 28 rfl)) Via.refl e105 F108 (g := (mkF m 35 #[sR oa, sI 3, sI 4, sI 4, sI 1] [(.ref oa)])) rfl rfl (hb hby d10_35)
  refine own_to ?_ st109
  refine own_to (V := T109.setTop (mkF m 41 #[sR oa, sI 3, sI 4, sI 4, sI 1] [(.int 1), (.int 3), (.ref ua)])) ?_ fun t k => (by
    refine XS.iloadN X109.here hx rfl (hb hby d10_38) rfl ?_
    refine XS.iload X109.here hx rfl (hb hby d10_39) rfl ?_
    exact k)
  have F111 := ((sK101.keep K104 List.not_mem_nil).keep K105 List.not_mem_nil)
  obtain ⟨_, T110, h110, L110, Lc110, X110, e110, hQ110, l110, st110⟩ := own_cS (own_rmnst4_3_1 l Z a0 hw hst [] ua sk101 c0 c1 c2 c3 h105 n0 Xo105 l0 l1 l2 l3 F111) X109 hx hZ hown e109 (own_i hw 89 rfl) (own_i hw 90 rfl) (own_i hw 91 rfl) (own_i hw 92 rfl) (by decide) (g := (mkF m 41 #[sR oa, sI 3, sI 4, sI 4, sI 1] [(.int 1), (.int 3), (.ref ua)])) rfl (by rw [hml]; rfl) (argsL := [(.ref ua), (.int 3), (.int 1)]) (rest := []) (lenOf own_pd5 rfl) rfl rfl (hb hby d10_41) (W := 0) (Nat.le_of_eq rfl) (K := 2) (N := 5) rfl rfl (by decide) (by decide) (by decide) (by decide)
  obtain ⟨oo110, ou110, hv110, N110q, K110, g110_0⟩ := hQ110
  subst hv110
  have Xo110 := Xo105.keep K110 all0
  have KK110 := KK105.trans K110 all0
  have N110 := l110 _ N105 N110q
  refine own_to ?_ st110
  refine own_to (V := T110.setTop (mkF m 57 #[sR oa, sI 3, sI 4, sI 4, sI 1] [(.ref oo110)])) ?_ fun t k => (by
    refine XS.goto X110.here hx rfl (pc0 := 44) (pc' := 57) rfl (hb hby d10_44) (by decide) (by decide) ?_
    exact k)
  exact own_retR X110 hx hret (by decide) rfl hlk (hb hby d10_57) (by rw [e110]; exact (⟨oo110, ou110, rfl, N110, KK110, g110_0⟩)) (by decide) (by decide)
def own_Qtos34 (Z : State) (ow oa ua : Addr) (c0 c1 c2 c3 : Int32) (h0 : Heap) (n0 : Nat) (v : Option Value) (h : Heap) (L : List Loc) : Prop := (∃ (oo : Addr) (ou : Addr), v = some (.ref oo) ∧ Fr n0 L ∧ Keep h0 h [] ∧ (own_Str Z h oo ou ([c3] : List Int32)))
theorem own_ef_tos34 (m : MethodId) (ow : Addr)  : entryFrame m #[(.ref ow)] 1 = mkF m 0 #[sR ow] [] := by first | (simp [entryFrame, mkF, argsToLocals, Value.category]; done) | rfl
theorem own_rmtos34 (l : Launch) (Z : State) (a0 : Array Value) (hw : ∀ d ∈ tables_1, d.before a0 Z = true) (hst : own_St Z) (ws : List Jvm.Cond) (ow oa ua : Addr) (c0 c1 c2 c3 : Int32) (h0 : Heap) (n0 : Nat) (X00 : Old Z n0 h0) (l0 : ¬ c0 < 0 ∧ ¬ (255 : Int32) < c0) (l1 : ¬ c1 < 0 ∧ ¬ (255 : Int32) < c1) (l2 : ¬ c2 < 0 ∧ ¬ (255 : Int32) < c2) (l3 : ¬ c3 < 0 ∧ ¬ (255 : Int32) < c3) (hE : Exa Z h0 ow nm1) (f1 : Fld Z h0 ow nm1 "text" nm2 (.ref oa)) (f2 : Fld Z h0 ow nm1 "start" "I" (.int 3)) (f3 : Fld Z h0 ow nm1 "end" "I" (.int 4)) (hS : own_Str Z h0 oa ua ([c0, c1, c2, c3] : List Int32)) :
    own_MF l own_mn12 prog_77_method_5_code 1 (Option.some (Jvm.ClassFile.FieldType.object "java/lang/String")) ws (own_R 5 2 5 80) #[(.ref ow)] Z h0 (own_Qtos34 Z ow oa ua c0 c1 c2 c3 h0 n0) := by
  refine own_body (plainFor_of_name own_pn4) (fun m => own_ef_tos34 m ow ) ?_
  intro p e s m below meth c s₁ hx hby hret hlk hml hZ hown hnm hh X0 e0
  have N0 := Fr.nil n0
  have KK0 : Keep h0 h0 [] := Keep.refl h0 _
  obtain ⟨⟨G1, O2, P5⟩, ⟨G3, O4, rG3⟩, -⟩ := id hst
  refine own_to (V := s₁.setTop (mkF m 1 #[sR ow] [(.ref ow)])) ?_ fun t k => (by
    refine XS.aloadN X0.here hx rfl (hb hby d11_0) rfl rfl ?_
    exact k)
  obtain ⟨T101, X101, e101, st101⟩ := getF X0 hx hZ hown (host := "") (Or.inl (own_i hw 50 rfl)) Via.refl e0 f1 (g := (mkF m 1 #[sR ow] [(.ref ow)])) rfl rfl (hb hby d11_1)
  refine own_to ?_ st101
  refine own_to (V := T101.setTop (mkF m 5 #[sR ow] [(.ref ow), (.ref oa)])) ?_ fun t k => (by
    refine XS.aloadN X101.here hx rfl (hb hby d11_4) rfl rfl ?_
    exact k)
  obtain ⟨T102, X102, e102, st102⟩ := getF X101 hx hZ hown (host := "") (Or.inl (own_i hw 52 rfl)) Via.refl e101 f2 (g := (mkF m 5 #[sR ow] [(.ref ow), (.ref oa)])) rfl rfl (hb hby d11_5)
  refine own_to ?_ st102
  refine own_to (V := T102.setTop (mkF m 9 #[sR ow] [(.ref ow), (.int 3), (.ref oa)])) ?_ fun t k => (by
    refine XS.aloadN X102.here hx rfl (hb hby d11_8) rfl rfl ?_
    exact k)
  obtain ⟨T103, X103, e103, st103⟩ := getF X102 hx hZ hown (host := "") (Or.inl (own_i hw 54 rfl)) Via.refl e102 f3 (g := (mkF m 9 #[sR ow] [(.ref ow), (.int 3), (.ref oa)])) rfl rfl (hb hby d11_9)
  refine own_to ?_ st103
  obtain ⟨_, T104, h104, L104, Lc104, X104, e104, hQ104, l104, st104⟩ := own_cV (own_rmsub4_3_4 l Z a0 hw hst [] oa ua c0 c1 c2 c3 h0 n0 X00 l0 l1 l2 l3 hS) X103 hx hZ hown e103 hS.1 (own_i hw 61 rfl) (own_i hw 62 rfl) (notFace_of_selects (args := #[]) (mvT hZ (own_i hw 64 rfl))) (own_i hw 64 rfl) (own_i hw 63 rfl) (own_i hw 3 rfl) (own_i hw 65 rfl) (by decide) (g := (mkF m 12 #[sR ow] [(.int 4), (.int 3), (.ref oa)])) rfl (by rw [hml]; rfl) (argsL := [(.int 3), (.int 4)]) (rest := []) (lenOf own_pd6 rfl) rfl rfl (hb hby d11_12) (W := 0) (Nat.le_of_eq rfl) (K := 2) (N := 5) rfl rfl (by decide) (by decide) (by decide) (by decide)
  obtain ⟨oo104, ou104, hv104, N104q, K104, g104_0⟩ := hQ104
  subst hv104
  have Xo104 := X00.keep K104 all0
  have KK104 := KK0.trans K104 all0
  have N104 := l104 _ N0 N104q
  refine own_to ?_ st104
  exact own_retR X104 hx hret (by decide) rfl hlk (hb hby d11_15) (by rw [e104]; exact (⟨oo104, ou104, rfl, N104, KK104, g104_0⟩)) (by decide) (by decide)
def own_Qsm130 (Z : State) (oa ua ob : Addr) (kb : ClassId) (c0 c1 c2 c3 : Int32) (h0 : Heap) (n0 : Nat) (v : Option Value) (h : Heap) (L : List Loc) : Prop := (v = some (.int 1) ∧ Fr n0 L ∧ Keep h0 h [])
theorem own_ef_sm130 (m : MethodId) (oa : Addr) (ob : Addr)  : entryFrame m #[(.ref oa), (.int 0), (.ref ob), (.int 3), (.int 1)] 5 = mkF m 0 #[sR oa, sI 0, sR ob, sI 3, sI 1] [] := by first | (simp [entryFrame, mkF, argsToLocals, Value.category]; done) | rfl
theorem own_rmsm130 (l : Launch) (Z : State) (a0 : Array Value) (hw : ∀ d ∈ tables_1, d.before a0 Z = true) (hst : own_St Z) (ws : List Jvm.Cond) (oa ua ob : Addr) (kb : ClassId) (c0 c1 c2 c3 : Int32) (h0 : Heap) (n0 : Nat) (X00 : Old Z n0 h0) (l0 : ¬ c0 < 0 ∧ ¬ (255 : Int32) < c0) (l1 : ¬ c1 < 0 ∧ ¬ (255 : Int32) < c1) (l2 : ¬ c2 < 0 ∧ ¬ (255 : Int32) < c2) (l3 : ¬ c3 < 0 ∧ ¬ (255 : Int32) < c3) (hS : own_Str Z h0 oa ua ([c3] : List Int32)) (hA : Arv Z h0 ob kb .char (4 : Int32) [(.int c0), (.int c1), (.int c2), (.int c3)] (.int (0 : Int32))) :
    own_MF l own_mn15 method_2_code 5 (Option.some Jvm.ClassFile.FieldType.boolean) ws (own_R 4 0 0 53) #[(.ref oa), (.int 0), (.ref ob), (.int 3), (.int 1)] Z h0 (own_Qsm130 Z oa ua ob kb c0 c1 c2 c3 h0 n0) := by
  refine own_body (plainFor_of_name own_pn6) (fun m => own_ef_sm130 m oa ob ) ?_
  intro p e s m below meth c s₁ hx hby hret hlk hml hZ hown hnm hh X0 e0
  have N0 := Fr.nil n0
  have KK0 : Keep h0 h0 [] := Keep.refl h0 _
  obtain ⟨⟨G1, O2, P5⟩, ⟨G3, O4, rG3⟩, -⟩ := id hst
  refine own_to (V := s₁.setTop (mkF m 10 #[sR oa, sI 0, sR ob, sI 3, sI 1] [(.int 0), (.ref oa)])) ?_ fun t k => (by
    refine XS.iloadN X0.here hx rfl (hb hby d14_0) rfl ?_
    refine XS.iload X0.here hx rfl (hb hby d14_1) rfl ?_
    refine XS.icmpYes X0.here hx rfl (pc0 := 3) (pc' := 8) rfl (hb hby d14_3) rfl (tlt ((by decide) : (0 : Int32) < (1 : Int32))).1 (by decide) (by decide) ?_
    refine XS.aloadN X0.here hx rfl (hb hby d14_8) rfl rfl ?_
    refine XS.iloadN X0.here hx rfl (hb hby d14_9) rfl ?_
    exact k)
  obtain ⟨sN102, sk102, sv102, sE102, sV102, sC102, sK102, sc102, sb102, sl102⟩ := own_Str.latin hS (own_lat2 (own_allS l3 own_all0))
  obtain ⟨cq101, kq101, q101a, q101b, q101c⟩ := isOf hZ e0 hS.1
  obtain ⟨_, _, ⟨T101, L101, k101, n101⟩, -, X101, ⟨Lc101, hQ101, l101, y101, z101⟩, st101⟩ := X0.virtualBack hx (y := own_mn16) (z := own_mn16) hown (mvT hZ (own_i hw 117 rfl)) (mvT hZ (own_i hw 118 rfl)) (notFace_of_selects (args := #[]) (mvT hZ (own_i hw 120 rfl))) (mvT hZ (own_i hw 120 rfl)) (mvT hZ (own_i hw 119 rfl)) (by decide) (StrChars.Road.chN (W := 0) hZ (own_hch hw) (kI := 4) (own_i hw 2 rfl) sE102 sV102 sC102 sK102 sc102 sb102 (O2.ext X00.2) P5 (O4.ext X00.2) rG3 sl102 (i := 0) (Nat.le_of_ble_eq_true rfl) (j := (0 : Int32)) rfl (by decide) (by decide)) q101a q101c (g := (mkF m 10 #[sR oa, sI 0, sR ob, sI 3, sI 1] [(.int 0), (.ref oa)])) rfl (by rw [hml]; rfl) (Steps.refl _) (argsL := [(.int 0)]) (rest := []) (lenOf own_pd11 rfl) rfl (by show 2 * 0 + _ ≤ _; exact Nat.le_of_eq rfl) (hb hby d14_10) (fun _ _ => ⟨rfl, e0, (by decide : 0 + 0 ≤ _), (by decide : 0 + 0 ≤ _)⟩)
  dsimp only [own_R, Pt.U, Pt.locs, Pt.cells, Pt.slots] at X101 l101 y101 z101 st101 hQ101
  subst y101 z101
  obtain ⟨hv101, hL101, hh101⟩ := hQ101
  subst hL101
  have N101 : Fr n0 L101 := by rw [l101]; exact Fr.app N0 (Fr.nil n0)
  subst hv101
  refine own_to ?_ (fun t k => st101.trans k)
  refine own_to (V := T101.setTop (mkF m 17 #[sR oa, sI 0, sR ob, sI 3, sI 1] [(.int 3), (.ref ob), (.int c3)])) ?_ fun t k => (by
    refine XS.aloadN X101.here hx rfl (hb hby d14_13) rfl rfl ?_
    refine XS.iloadN X101.here hx rfl (hb hby d14_14) rfl ?_
    refine XS.iloadN X101.here hx rfl (hb hby d14_15) rfl ?_
    refine XS.iadd X101.here hx rfl (hb hby d14_16) rfl ?_
    exact k)
  obtain ⟨cl103, Ar103, q103, S103, M103, H103, G103⟩ := id hA
  have hin103 : ¬ ((3 : Int32) < 0 ∨ cl103.slots.size ≤ ((3 : Int32)).toNatClampNeg) := inb_of S103 ⟨by decide, by decide⟩
  refine own_to (V := T101.setTop (mkF m 18 #[sR oa, sI 0, sR ob, sI 3, sI 1] [(.int c3), (.int c3)])) ?_ (fun t k => X101.caload hx (j := (3 : Int32)) (v := (.int c3)) (by rw [hh101]; exact Ar103.1) (State.isArrayOf_alike hZ.alike Ar103.2.1) Ar103.2.2 hin103 (Has.at H103 hin103 rfl) (g := (mkF m 17 #[sR oa, sI 0, sR ob, sI 3, sI 1] [(.int 3), (.ref ob), (.int c3)])) rfl rfl (hb hby d14_17) t k)
  refine own_to (V := T101.setTop (mkF m 26 #[sR oa, sI 0, sR ob, sI 3, sI 1] [(.int 1)])) ?_ fun t k => (by
    refine XS.icmpNo X101.here hx rfl (hb hby d14_18) rfl (teq (rfl : c3 = c3)).2 ?_
    refine XS.iconst X101.here hx rfl (hb hby d14_21) ?_
    refine XS.goto X101.here hx rfl (pc0 := 22) (pc' := 26) rfl (hb hby d14_22) (by decide) (by decide) ?_
    exact k)
  exact own_retN X101 hx (t := .boolean) (w := (1 : Int32)) hret (by decide) rfl hlk (hb hby d14_26) (by rw [hh101]; exact (⟨rfl, N101, KK0⟩)) (by decide) (by decide)
def own_Qnst4_4_0 (Z : State) (ob : Addr) (kb : ClassId) (c0 c1 c2 c3 : Int32) (h0 : Heap) (n0 : Nat) (v : Option Value) (h : Heap) (L : List Loc) : Prop := (∃ (oo : Addr) (ou : Addr), v = some (.ref oo) ∧ Fr n0 L ∧ Keep h0 h [] ∧ (own_Str Z h oo ou ([] : List Int32)))
theorem own_ef_nst4_4_0 (m : MethodId) (ob : Addr)  : entryFrame m #[(.ref ob), (.int 4), (.int 0)] 3 = mkF m 0 #[sR ob, sI 4, sI 0] [] := by first | (simp [entryFrame, mkF, argsToLocals, Value.category]; done) | rfl
theorem own_rmnst4_4_0 (l : Launch) (Z : State) (a0 : Array Value) (hw : ∀ d ∈ tables_1, d.before a0 Z = true) (hst : own_St Z) (ws : List Jvm.Cond) (ob : Addr) (kb : ClassId) (c0 c1 c2 c3 : Int32) (h0 : Heap) (n0 : Nat) (X00 : Old Z n0 h0) (l0 : ¬ c0 < 0 ∧ ¬ (255 : Int32) < c0) (l1 : ¬ c1 < 0 ∧ ¬ (255 : Int32) < c1) (l2 : ¬ c2 < 0 ∧ ¬ (255 : Int32) < c2) (l3 : ¬ c3 < 0 ∧ ¬ (255 : Int32) < c3) (hA : Arv Z h0 ob kb .byte (4 : Int32) [(.int (StrChars.lo8 c0)), (.int (StrChars.lo8 c1)), (.int (StrChars.lo8 c2)), (.int (StrChars.lo8 c3))] (.int (0 : Int32))) :
    MetFree l own_mn9 (head1 (Jvm.Cond.code own_mn9 jdk_43_method_47_code 3 (Option.some (Jvm.ClassFile.FieldType.object "java/lang/String")) :: ws) (own_R 0 2 4 0)) (fun a U => a = #[(.ref ob), (.int 4), (.int 0)] ∧ Z.Warmed39 U.vm ∧ U.heap = h0 ∧ CHv Z consts_1 U.vm h0) (fun _ _ _ _ _ => True) (fun _ U o U' => ∃ v L, o = .returned v ∧ own_Qnst4_4_0 Z ob kb c0 c1 c2 c3 h0 n0 v U'.heap L ∧ CHr Z consts_1 U.vm U.heap U'.vm U'.heap ∧ ReturnedEndW U o U' L (own_R 0 2 4 0).cells (own_R 0 2 4 0).slots) := by
  refine MetFree.of_bodySF (plainFor_of_name own_pn5) hisR ?_
  intro p e s m args below meth c s₁ Bd hml0 hP hK
  obtain ⟨rfl, hZ, hh, hCH⟩ := hP
  have hx := Bd.exec
  have hby := Bd.bytes
  have hret := Bd.returns
  have hlk : meth.locks = false := BodyLoose.notSynchronized Bd
  have hml : c.maxLocals = 3 := hml0
  have hown : s.vm.findClass "java/lang/StringLatin1" = some m.cls := findClass_of_methodNamed Bd.named
  have hnm := (name_of_methodNamed Bd.named Bd.method).1
  have X0 : Stand p l e (own_R 0 2 4 0) (s.setVm s.vm) m #[(.ref ob), (.int 4), (.int 0)] below meth c s₁ [] 0 0 := Stand.of_body Bd
  have e0 : s₁.heap = h0 := by rw [← hh, Bd.state]; rfl
  have N0 := Fr.nil n0
  have KK0 : Keep h0 h0 [] := Keep.refl h0 _
  have hS0 : s.Since s.vm 0 := (State.WarmedH.refl s).since 0
  have hk0 : 0 ≤ h0.size := Nat.zero_le _
  have Ch0 : CHr Z consts_1 s.vm h0 s.vm h0 := CHr.refl hCH
  refine own_startH (own_Qnst4_4_0 Z ob kb c0 c1 c2 c3 h0 n0) ?_
  refine own_to (V := s₁.setTop (mkF m 0 #[sR ob, sI 4, sI 0] [])) ?_ (fun t k => castTop (own_ef_nst4_4_0 m ob ) k)
  obtain ⟨⟨G1, O2, P5⟩, ⟨G3, O4, rG3⟩, -⟩ := id hst
  refine own_to (V := s₁.setTop (mkF m 4 #[sR ob, sI 4, sI 0] [])) ?_ fun t k => (by
    refine XS.iloadN X0.here hx rfl (hb hby d9_0) rfl ?_
    refine XS.ifNo X0.here hx rfl (hb hby d9_1) rfl ((if0 _ _).trans (teq ((by decide) : (0 : Int32) = (0 : Int32))).2) ?_
    exact k)
  obtain ⟨s101, T101, h101, k101, t101, kb101, X101, e101, E101, hS101, hk101, hZ101, hown101, gE101, gC101, gV101, gK101, la101, lb101, hC101, hL101, hne101, st101⟩ := ldcCH X0 hx hZ hown (own_i hw 131 rfl) (own_hsa hw) e0 hS0 hk0 (own_hEL hw) (own_mem131) Ch0.1 (vs := ([] : List Value)) (z := (0 : Int32)) ⟨by decide, by decide +kernel⟩ (by decide) (by decide) (g := (mkF m 4 #[sR ob, sI 4, sI 0] [])) rfl (hb hby d9_4) (n := 0) (by decide) (by decide) (by decide) (by decide)
  have Cs101 : CHr Z consts_1 s.vm h0 T101.vm h101 := hC101
  have Ch101 := Ch0.trans Cs101
  have Xo101 := X00.ext E101
  have KK101 := KK0.ext E101
  have Fs101 : own_Str Z h101 s101 t101 ([] : List Int32) := own_mkLit gE101 gV101 gC101 gK101 (by decide) (by decide) (by decide +kernel) (by decide)
  refine own_to ?_ st101
  exact own_retRH X101 hx hS101 (own_hk e101 hk101) (by rw [e101, hh]; exact Ch101.trans (CHv.at X101 hZ101 (own_hEL hw) Ch101.1)) hret (by decide) rfl hlk (hb hby d9_6) (by rw [e101]; exact (⟨s101, t101, rfl, N0, KK101, Fs101⟩)) (by decide) (by decide)
def own_Qsub4_4_4 (Z : State) (oa ua : Addr) (c0 c1 c2 c3 : Int32) (h0 : Heap) (n0 : Nat) (v : Option Value) (h : Heap) (L : List Loc) : Prop := (∃ (oo : Addr) (ou : Addr), v = some (.ref oo) ∧ Fr n0 L ∧ Keep h0 h [] ∧ (own_Str Z h oo ou ([] : List Int32)))
theorem own_ef_sub4_4_4 (m : MethodId) (oa : Addr)  : entryFrame m #[(.ref oa), (.int 4), (.int 4)] 5 = mkF m 0 #[sR oa, sI 4, sI 4, .unset, .unset] [] := by first | (simp [entryFrame, mkF, argsToLocals, Value.category]; done) | rfl
theorem own_rmsub4_4_4 (l : Launch) (Z : State) (a0 : Array Value) (hw : ∀ d ∈ tables_1, d.before a0 Z = true) (hst : own_St Z) (ws : List Jvm.Cond) (oa ua : Addr) (c0 c1 c2 c3 : Int32) (h0 : Heap) (n0 : Nat) (X00 : Old Z n0 h0) (l0 : ¬ c0 < 0 ∧ ¬ (255 : Int32) < c0) (l1 : ¬ c1 < 0 ∧ ¬ (255 : Int32) < c1) (l2 : ¬ c2 < 0 ∧ ¬ (255 : Int32) < c2) (l3 : ¬ c3 < 0 ∧ ¬ (255 : Int32) < c3) (hS : own_Str Z h0 oa ua ([c0, c1, c2, c3] : List Int32)) :
    MetFree l own_mn10 (head1 (Jvm.Cond.code own_mn10 jdk_42_method_92_code 5 (Option.some (Jvm.ClassFile.FieldType.object "java/lang/String")) :: ws) (own_R 2 2 4 29)) (fun a U => a = #[(.ref oa), (.int 4), (.int 4)] ∧ Z.Warmed39 U.vm ∧ U.heap = h0 ∧ CHv Z consts_1 U.vm h0) (fun _ _ _ _ _ => True) (fun _ U o U' => ∃ v L, o = .returned v ∧ own_Qsub4_4_4 Z oa ua c0 c1 c2 c3 h0 n0 v U'.heap L ∧ CHr Z consts_1 U.vm U.heap U'.vm U'.heap ∧ ReturnedEndW U o U' L (own_R 2 2 4 29).cells (own_R 2 2 4 29).slots) := by
  refine MetFree.of_bodySF (plainFor_of_name own_pn2) hisR ?_
  intro p e s m args below meth c s₁ Bd hml0 hP hK
  obtain ⟨rfl, hZ, hh, hCH⟩ := hP
  have hx := Bd.exec
  have hby := Bd.bytes
  have hret := Bd.returns
  have hlk : meth.locks = false := BodyLoose.notSynchronized Bd
  have hml : c.maxLocals = 5 := hml0
  have hown : s.vm.findClass "java/lang/String" = some m.cls := findClass_of_methodNamed Bd.named
  have hnm := (name_of_methodNamed Bd.named Bd.method).1
  have X0 : Stand p l e (own_R 2 2 4 29) (s.setVm s.vm) m #[(.ref oa), (.int 4), (.int 4)] below meth c s₁ [] 0 0 := Stand.of_body Bd
  have e0 : s₁.heap = h0 := by rw [← hh, Bd.state]; rfl
  have N0 := Fr.nil n0
  have KK0 : Keep h0 h0 [] := Keep.refl h0 _
  have hS0 : s.Since s.vm 0 := (State.WarmedH.refl s).since 0
  have hk0 : 0 ≤ h0.size := Nat.zero_le _
  have Ch0 : CHr Z consts_1 s.vm h0 s.vm h0 := CHr.refl hCH
  refine own_startH (own_Qsub4_4_4 Z oa ua c0 c1 c2 c3 h0 n0) ?_
  refine own_to (V := s₁.setTop (mkF m 0 #[sR oa, sI 4, sI 4, .unset, .unset] [])) ?_ (fun t k => castTop (own_ef_sub4_4_4 m oa ) k)
  obtain ⟨⟨G1, O2, P5⟩, ⟨G3, O4, rG3⟩, -⟩ := id hst
  obtain ⟨sk101, sE101, sV101, sC101, sK101', sb101⟩ := own_Str.latinL hS (own_lat2 (own_allS l0 (own_allS l1 (own_allS l2 (own_allS l3 own_all0)))))
  have sK101 : Arv Z h0 ua sk101 .byte (4 : Int32) [(.int (StrChars.lo8 c0)), (.int (StrChars.lo8 c1)), (.int (StrChars.lo8 c2)), (.int (StrChars.lo8 c3))] (.int (0 : Int32)) := sK101'
  refine own_to (V := s₁.setTop (mkF m 1 #[sR oa, sI 4, sI 4, .unset, .unset] [(.ref oa)])) ?_ fun t k => (by
    refine XS.aloadN X0.here hx rfl (hb hby d10_0) rfl rfl ?_
    exact k)
  obtain ⟨sE103, sd103, sN103, sk103, sv103, sV103, sC103, sK103, sc103, sb103, sl103⟩ := id hS
  obtain ⟨cq102, kq102, q102a, q102b, q102c⟩ := isOf hZ e0 sE101
  obtain ⟨_, _, ⟨T102, L102, k102, n102⟩, -, X102, ⟨Lc102, hQ102, l102, y102, z102⟩, st102⟩ := X0.virtualBack hx (y := own_mn11) (z := own_mn11) hown (mvT hZ (own_i hw 66 rfl)) (mvT hZ (own_i hw 67 rfl)) (notFace_of_selects (args := #[]) (mvT hZ (own_i hw 69 rfl))) (mvT hZ (own_i hw 69 rfl)) (mvT hZ (own_i hw 68 rfl)) (by decide) (StrChars.Road.lenW (W := 0) hZ (own_hln hw) (kI := 4) (own_i hw 2 rfl) sE103 sV103 sC103 sK103 sc103 sb103 (O2.ext X00.2) P5 sl103 (by decide) (by decide)) q102a q102c (g := (mkF m 1 #[sR oa, sI 4, sI 4, .unset, .unset] [(.ref oa)])) rfl (by rw [hml]; rfl) (Steps.refl _) (argsL := []) (rest := []) (lenOf own_pd2 rfl) rfl (by show 2 * 0 + _ ≤ _; exact Nat.le_of_eq rfl) (hb hby d10_1) (fun _ _ => ⟨rfl, e0, (by decide : 0 + 0 ≤ _), (by decide : 0 + 0 ≤ _)⟩)
  dsimp only [own_R, Pt.U, Pt.locs, Pt.cells, Pt.slots] at X102 l102 y102 z102 st102 hQ102
  subst y102 z102
  obtain ⟨hv102, hL102, hh102⟩ := hQ102
  subst hL102
  have N102 : Fr n0 L102 := by rw [l102]; exact Fr.app N0 (Fr.nil n0)
  subst hv102
  refine own_to ?_ (fun t k => st102.trans k)
  refine own_to (V := T102.setTop (mkF m 8 #[sR oa, sI 4, sI 4, sI 4, .unset] [(.int 4), (.int 4), (.int 4)])) ?_ fun t k => (by
    refine XS.istoreN X102.here hx rfl (hb hby d10_4) rfl (l' := #[sR oa, sI 4, sI 4, sI 4, .unset]) rfl ?_
    refine XS.iloadN X102.here hx rfl (hb hby d10_5) rfl ?_
    refine XS.iloadN X102.here hx rfl (hb hby d10_6) rfl ?_
    refine XS.iloadN X102.here hx rfl (hb hby d10_7) rfl ?_
    exact k)
  obtain ⟨_, T104, h104, L104, Lc104, X104, e104, hQ104, l104, st104⟩ := own_cS (own_rmcbbe l Z a0 hw hst [] (4 : Int32) (4 : Int32) (4 : Int32) h0 n0 X00 (by first | assumption | decide | omega | (simp; done) | rfl) (by first | assumption | decide | omega | (simp; done) | rfl) (by first | assumption | decide | omega | (simp; done) | rfl)) X102 hx hZ hown hh102 (own_i hw 76 rfl) (own_i hw 77 rfl) (own_i hw 3 rfl) (own_i hw 78 rfl) (by decide) (g := (mkF m 8 #[sR oa, sI 4, sI 4, sI 4, .unset] [(.int 4), (.int 4), (.int 4)])) rfl (by rw [hml]; rfl) (argsL := [(.int 4), (.int 4), (.int 4)]) (rest := []) (lenOf own_pd3 rfl) rfl rfl (hb hby d10_8) (W := 0) (Nat.le_of_eq rfl) (K := 0) (N := 0) rfl rfl (by decide) (by decide) (by decide) (by decide)
  obtain ⟨hv104, N104q, K104⟩ := hQ104
  subst hv104
  have Cs104 : CHr Z consts_1 s.vm h0 s.vm h104 := CHr.keep K104 sf0 Ch0.1
  have Ch104 := Ch0.trans Cs104
  have Xo104 := X00.keep K104 all0
  have KK104 := KK0.trans K104 all0
  have N104 := l104 _ N102 N104q
  refine own_to ?_ st104
  refine own_to (V := T104.setTop (mkF m 28 #[sR oa, sI 4, sI 4, sI 4, sI 0] [(.ref oa)])) ?_ fun t k => (by
    refine XS.iloadN X104.here hx rfl (hb hby d10_11) rfl ?_
    refine XS.ifYes X104.here hx rfl (pc0 := 12) (pc' := 22) rfl (hb hby d10_12) rfl ((if0 _ _).trans (feq ((by decide) : ¬ ((4 : Int32) = (0 : Int32)))).2) (by decide) (by decide) ?_
    refine XS.iloadN X104.here hx rfl (hb hby d10_22) rfl ?_
    refine XS.iloadN X104.here hx rfl (hb hby d10_23) rfl ?_
    refine XS.isub X104.here hx rfl (hb hby d10_24) rfl ?_
    refine XS.istore X104.here hx rfl (hb hby d10_25) rfl (l' := #[sR oa, sI 4, sI 4, sI 4, sI 0]) rfl ?_
    refine XS.aloadN X104.here hx rfl (hb hby d10_27) rfl rfl ?_
    exact k)
  have F106 := (sE101.keep K104)
  have F107 := (sC101.keep K104 List.not_mem_nil)
  obtain ⟨_, T105, h105, L105, Lc105, X105, e105, hQ105, l105, st105⟩ := own_cV (own_rmisl1 l Z a0 hw hst [] oa h104 n0 Xo104 F106 F107) X104 hx hZ hown e104 F106 (own_i hw 84 rfl) (own_i hw 85 rfl) (notFace_of_selects (args := #[]) (mvT hZ (own_i hw 87 rfl))) (own_i hw 87 rfl) (own_i hw 86 rfl) (own_i hw 3 rfl) (own_i hw 88 rfl) (by decide) (g := (mkF m 28 #[sR oa, sI 4, sI 4, sI 4, sI 0] [(.ref oa)])) rfl (by rw [hml]; rfl) (argsL := []) (rest := []) (lenOf own_pd4 rfl) rfl rfl (hb hby d10_28) (W := 0) (Nat.le_of_eq rfl) (K := 0) (N := 0) rfl rfl (by decide) (by decide) (by decide) (by decide)
  obtain ⟨hv105, N105q, K105⟩ := hQ105
  subst hv105
  have Cs105 : CHr Z consts_1 s.vm h104 s.vm h105 := CHr.keep K105 sf0 Ch104.1
  have Ch105 := Ch104.trans Cs105
  have Xo105 := Xo104.keep K105 all0
  have KK105 := KK104.trans K105 all0
  have N105 := l105 _ N104 N105q
  refine own_to ?_ st105
  refine own_to (V := T105.setTop (mkF m 35 #[sR oa, sI 4, sI 4, sI 4, sI 0] [(.ref oa)])) ?_ fun t k => (by
    refine XS.ifNo X105.here hx rfl (hb hby d10_31) rfl ((if0 _ _).trans (feq ((by decide) : ¬ ((1 : Int32) = (0 : Int32)))).1) ?_
    refine XS.aloadN X105.here hx rfl (hb hby d10_34) rfl rfl ?_
    exact k)
  have F108 := ((sV101.keep K104 List.not_mem_nil).keep K105 List.not_mem_nil)
  obtain ⟨T109, X109, e109, st109⟩ := getF X105 hx hZ hown (host := "") (Or.inl (own_i hw 28 rfl)) Via.refl e105 F108 (g := (mkF m 35 #[sR oa, sI 4, sI 4, sI 4, sI 0] [(.ref oa)])) rfl rfl (hb hby d10_35)
  refine own_to ?_ st109
  refine own_to (V := T109.setTop (mkF m 41 #[sR oa, sI 4, sI 4, sI 4, sI 0] [(.int 0), (.int 4), (.ref ua)])) ?_ fun t k => (by
    refine XS.iloadN X109.here hx rfl (hb hby d10_38) rfl ?_
    refine XS.iload X109.here hx rfl (hb hby d10_39) rfl ?_
    exact k)
  have F111 := ((sK101.keep K104 List.not_mem_nil).keep K105 List.not_mem_nil)
  obtain ⟨_, _, ⟨T110, L110, k110, n110⟩, -, X110', hS110', hg110, ⟨Lc110, hQ110, l110, y110, z110, hC110'⟩, st110⟩ := callSS X109 hx (y := own_mn9) hown (mvT hZ (own_i hw 89 rfl)) (mvT hZ (own_i hw 90 rfl)) (mvT hZ (own_i hw 91 rfl)) (mvT hZ (own_i hw 92 rfl)) (by decide) (backOfSH (W := 0) (own_rmnst4_4_0 l Z a0 hw hst [] ua sk101 c0 c1 c2 c3 h105 n0 Xo105 l0 l1 l2 l3 F111) hZ (own_i hw 92 rfl) (own_i hw 91 rfl) (by decide) (by decide) (own_hEL hw) Ch105.1) (g := (mkF m 41 #[sR oa, sI 4, sI 4, sI 4, sI 0] [(.int 0), (.int 4), (.ref ua)])) rfl (by rw [hml]; rfl) (argsL := [(.ref ua), (.int 4), (.int 0)]) (rest := []) (lenOf own_pd5 rfl) rfl (by show 2 * 0 + _ ≤ _; exact Nat.le_of_eq rfl) (hb hby d10_41) (fun _ _ => ⟨rfl, e109, (by decide : 0 + 2 ≤ _), (by decide : 0 + 4 ≤ _)⟩)
  dsimp only [own_R, Pt.U, Pt.locs, Pt.cells, Pt.slots] at X110' hS110' hg110 l110 y110 z110 st110 hQ110 hC110'
  subst y110 z110
  obtain ⟨X110, hS110, hZ110, hown110⟩ := rebS hS0 (own_hk e109 (Nat.le_trans (Nat.le_trans hk0 K104.1) K105.1)) X110' hS110' hg110 hZ hown
  obtain ⟨oo110, ou110, hv110, N110q, K110, g110_0⟩ := hQ110
  subst hv110
  obtain ⟨h110, e110⟩ : ∃ z, T110.heap = z := ⟨_, rfl⟩
  rw [e110] at K110 g110_0 hC110'
  have Cs110 : CHr Z consts_1 s.vm h105 T110.vm h110 := hC110'
  have Ch110 := Ch105.trans Cs110
  have Xo110 := Xo105.keep K110 all0
  have KK110 := KK105.trans K110 all0
  have hk110 : T110.heap.size ≤ h110.size := by rw [e110]; exact Nat.le_refl _
  have N110 : Fr n0 L110 := by rw [l110]; exact Fr.app N105 N110q
  refine own_to ?_ (fun t k => st110.trans k)
  refine own_to (V := T110.setTop (mkF m 57 #[sR oa, sI 4, sI 4, sI 4, sI 0] [(.ref oo110)])) ?_ fun t k => (by
    refine XS.goto X110.here hx rfl (pc0 := 44) (pc' := 57) rfl (hb hby d10_44) (by decide) (by decide) ?_
    exact k)
  exact own_retRH X110 hx hS110 (own_hk e110 hk110) (by rw [e110, hh]; exact Ch110.trans (CHv.at X110 hZ110 (own_hEL hw) Ch110.1)) hret (by decide) rfl hlk (hb hby d10_57) (by rw [e110]; exact (⟨oo110, ou110, rfl, N110, KK110, g110_0⟩)) (by decide) (by decide)
def own_Qtos44 (Z : State) (ow oa ua : Addr) (c0 c1 c2 c3 : Int32) (h0 : Heap) (n0 : Nat) (v : Option Value) (h : Heap) (L : List Loc) : Prop := (∃ (oo : Addr) (ou : Addr), v = some (.ref oo) ∧ Fr n0 L ∧ Keep h0 h [] ∧ (own_Str Z h oo ou ([] : List Int32)))
theorem own_ef_tos44 (m : MethodId) (ow : Addr)  : entryFrame m #[(.ref ow)] 1 = mkF m 0 #[sR ow] [] := by first | (simp [entryFrame, mkF, argsToLocals, Value.category]; done) | rfl
theorem own_rmtos44 (l : Launch) (Z : State) (a0 : Array Value) (hw : ∀ d ∈ tables_1, d.before a0 Z = true) (hst : own_St Z) (ws : List Jvm.Cond) (ow oa ua : Addr) (c0 c1 c2 c3 : Int32) (h0 : Heap) (n0 : Nat) (X00 : Old Z n0 h0) (l0 : ¬ c0 < 0 ∧ ¬ (255 : Int32) < c0) (l1 : ¬ c1 < 0 ∧ ¬ (255 : Int32) < c1) (l2 : ¬ c2 < 0 ∧ ¬ (255 : Int32) < c2) (l3 : ¬ c3 < 0 ∧ ¬ (255 : Int32) < c3) (hE : Exa Z h0 ow nm1) (f1 : Fld Z h0 ow nm1 "text" nm2 (.ref oa)) (f2 : Fld Z h0 ow nm1 "start" "I" (.int 4)) (f3 : Fld Z h0 ow nm1 "end" "I" (.int 4)) (hS : own_Str Z h0 oa ua ([c0, c1, c2, c3] : List Int32)) :
    MetFree l own_mn12 (head1 (Jvm.Cond.code own_mn12 prog_77_method_5_code 1 (Option.some (Jvm.ClassFile.FieldType.object "java/lang/String")) :: ws) (own_R 3 2 4 45)) (fun a U => a = #[(.ref ow)] ∧ Z.Warmed39 U.vm ∧ U.heap = h0 ∧ CHv Z consts_1 U.vm h0) (fun _ _ _ _ _ => True) (fun _ U o U' => ∃ v L, o = .returned v ∧ own_Qtos44 Z ow oa ua c0 c1 c2 c3 h0 n0 v U'.heap L ∧ CHr Z consts_1 U.vm U.heap U'.vm U'.heap ∧ ReturnedEndW U o U' L (own_R 3 2 4 45).cells (own_R 3 2 4 45).slots) := by
  refine MetFree.of_bodySF (plainFor_of_name own_pn4) hisR ?_
  intro p e s m args below meth c s₁ Bd hml0 hP hK
  obtain ⟨rfl, hZ, hh, hCH⟩ := hP
  have hx := Bd.exec
  have hby := Bd.bytes
  have hret := Bd.returns
  have hlk : meth.locks = false := BodyLoose.notSynchronized Bd
  have hml : c.maxLocals = 1 := hml0
  have hown : s.vm.findClass "com/example/capstrike/capstrike/TermText$Written" = some m.cls := findClass_of_methodNamed Bd.named
  have hnm := (name_of_methodNamed Bd.named Bd.method).1
  have X0 : Stand p l e (own_R 3 2 4 45) (s.setVm s.vm) m #[(.ref ow)] below meth c s₁ [] 0 0 := Stand.of_body Bd
  have e0 : s₁.heap = h0 := by rw [← hh, Bd.state]; rfl
  have N0 := Fr.nil n0
  have KK0 : Keep h0 h0 [] := Keep.refl h0 _
  have hS0 : s.Since s.vm 0 := (State.WarmedH.refl s).since 0
  have hk0 : 0 ≤ h0.size := Nat.zero_le _
  have Ch0 : CHr Z consts_1 s.vm h0 s.vm h0 := CHr.refl hCH
  refine own_startH (own_Qtos44 Z ow oa ua c0 c1 c2 c3 h0 n0) ?_
  refine own_to (V := s₁.setTop (mkF m 0 #[sR ow] [])) ?_ (fun t k => castTop (own_ef_tos44 m ow ) k)
  obtain ⟨⟨G1, O2, P5⟩, ⟨G3, O4, rG3⟩, -⟩ := id hst
  refine own_to (V := s₁.setTop (mkF m 1 #[sR ow] [(.ref ow)])) ?_ fun t k => (by
    refine XS.aloadN X0.here hx rfl (hb hby d11_0) rfl rfl ?_
    exact k)
  obtain ⟨T101, X101, e101, st101⟩ := getF X0 hx hZ hown (host := "") (Or.inl (own_i hw 50 rfl)) Via.refl e0 f1 (g := (mkF m 1 #[sR ow] [(.ref ow)])) rfl rfl (hb hby d11_1)
  refine own_to ?_ st101
  refine own_to (V := T101.setTop (mkF m 5 #[sR ow] [(.ref ow), (.ref oa)])) ?_ fun t k => (by
    refine XS.aloadN X101.here hx rfl (hb hby d11_4) rfl rfl ?_
    exact k)
  obtain ⟨T102, X102, e102, st102⟩ := getF X101 hx hZ hown (host := "") (Or.inl (own_i hw 52 rfl)) Via.refl e101 f2 (g := (mkF m 5 #[sR ow] [(.ref ow), (.ref oa)])) rfl rfl (hb hby d11_5)
  refine own_to ?_ st102
  refine own_to (V := T102.setTop (mkF m 9 #[sR ow] [(.ref ow), (.int 4), (.ref oa)])) ?_ fun t k => (by
    refine XS.aloadN X102.here hx rfl (hb hby d11_8) rfl rfl ?_
    exact k)
  obtain ⟨T103, X103, e103, st103⟩ := getF X102 hx hZ hown (host := "") (Or.inl (own_i hw 54 rfl)) Via.refl e102 f3 (g := (mkF m 9 #[sR ow] [(.ref ow), (.int 4), (.ref oa)])) rfl rfl (hb hby d11_9)
  refine own_to ?_ st103
  obtain ⟨cq104, kq104, q104a, q104b, q104c⟩ := isOf hZ e103 hS.1
  obtain ⟨_, _, ⟨T104, L104, k104, n104⟩, -, X104', hS104', hg104, ⟨Lc104, hQ104, l104, y104, z104, hC104'⟩, st104⟩ := X103.virtualBackS hx (y := own_mn10) (z := own_mn10) hown (mvT hZ (own_i hw 61 rfl)) (mvT hZ (own_i hw 62 rfl)) (notFace_of_selects (args := #[]) (mvT hZ (own_i hw 64 rfl))) (mvT hZ (own_i hw 64 rfl)) (mvT hZ (own_i hw 63 rfl)) (by decide) (backOfSH (W := 0) (own_rmsub4_4_4 l Z a0 hw hst [] oa ua c0 c1 c2 c3 h0 n0 X00 l0 l1 l2 l3 hS) hZ (own_i hw 65 rfl) (own_i hw 3 rfl) (by decide) (by decide) (own_hEL hw) Ch0.1) q104a q104c (g := (mkF m 12 #[sR ow] [(.int 4), (.int 4), (.ref oa)])) rfl (by rw [hml]; rfl) (Steps.refl _) (argsL := [(.int 4), (.int 4)]) (rest := []) (lenOf own_pd6 rfl) rfl (by show 2 * 0 + _ ≤ _; exact Nat.le_of_eq rfl) (hb hby d11_12) (fun _ _ => ⟨rfl, e103, (by decide : 0 + 2 ≤ _), (by decide : 0 + 4 ≤ _)⟩)
  dsimp only [own_R, Pt.U, Pt.locs, Pt.cells, Pt.slots] at X104' hS104' hg104 l104 y104 z104 st104 hQ104 hC104'
  subst y104 z104
  obtain ⟨X104, hS104, hZ104, hown104⟩ := rebS hS0 (own_hk e103 hk0) X104' hS104' hg104 hZ hown
  obtain ⟨oo104, ou104, hv104, N104q, K104, g104_0⟩ := hQ104
  subst hv104
  obtain ⟨h104, e104⟩ : ∃ z, T104.heap = z := ⟨_, rfl⟩
  rw [e104] at K104 g104_0 hC104'
  have Cs104 : CHr Z consts_1 s.vm h0 T104.vm h104 := hC104'
  have Ch104 := Ch0.trans Cs104
  have Xo104 := X00.keep K104 all0
  have KK104 := KK0.trans K104 all0
  have hk104 : T104.heap.size ≤ h104.size := by rw [e104]; exact Nat.le_refl _
  have N104 : Fr n0 L104 := by rw [l104]; exact Fr.app N0 N104q
  refine own_to ?_ (fun t k => st104.trans k)
  exact own_retRH X104 hx hS104 (own_hk e104 hk104) (by rw [e104, hh]; exact Ch104.trans (CHv.at X104 hZ104 (own_hEL hw) Ch104.1)) hret (by decide) rfl hlk (hb hby d11_15) (by rw [e104]; exact (⟨oo104, ou104, rfl, N104, KK104, g104_0⟩)) (by decide) (by decide)
def own_Qsm (Z : State) (va : Value) (vk : Int32) (vb : Value) (vl vm : Int32) (h0 : Heap) (n0 : Nat) (v : Option Value) (h : Heap) (L : List Loc) : Prop := (v = some (.int 1) ∧ Fr n0 L ∧ Keep h0 h [])
theorem own_ef_sm (m : MethodId) (va : Value) (vk : Int32) (vb : Value) (vl : Int32) (vm : Int32) (r0 : va.isRef = true) (r1 : vb.isRef = true) : entryFrame m #[va, (.int vk), vb, (.int vl), (.int vm)] 5 = mkF m 0 #[.val va, sI vk, .val vb, sI vl, sI vm] [] := by first | (rcases ref_cases r0 with rfl | ⟨_, rfl⟩ <;> rcases ref_cases r1 with rfl | ⟨_, rfl⟩; all_goals first | (simp [entryFrame, mkF, argsToLocals, Value.category]; done) | rfl)
theorem own_rmsm (l : Launch) (Z : State) (a0 : Array Value) (hw : ∀ d ∈ tables_1, d.before a0 Z = true) (hst : own_St Z) (ws : List Jvm.Cond) (va : Value) (vk : Int32) (vb : Value) (vl vm : Int32) (h0 : Heap) (n0 : Nat) (X00 : Old Z n0 h0) (ra : va.isRef = true) (rb : vb.isRef = true) (hq : ¬ (vk < vm)) :
    own_MF l own_mn15 method_2_code 5 (Option.some Jvm.ClassFile.FieldType.boolean) ws (own_R 0 0 0 0) #[va, (.int vk), vb, (.int vl), (.int vm)] Z h0 (own_Qsm Z va vk vb vl vm h0 n0) := by
  refine own_body (plainFor_of_name own_pn6) (fun m => own_ef_sm m va vk vb vl vm ra rb) ?_
  intro p e s m below meth c s₁ hx hby hret hlk hml hZ hown hnm hh X0 e0
  have N0 := Fr.nil n0
  have KK0 : Keep h0 h0 [] := Keep.refl h0 _
  obtain ⟨⟨G1, O2, P5⟩, ⟨G3, O4, rG3⟩, -⟩ := id hst
  refine own_to (V := s₁.setTop (mkF m 7 #[.val va, sI vk, .val vb, sI vl, sI vm] [(.int 1)])) ?_ fun t k => (by
    refine XS.iloadN X0.here hx rfl (hb hby d14_0) rfl ?_
    refine XS.iload X0.here hx rfl (hb hby d14_1) rfl ?_
    refine XS.icmpNo X0.here hx rfl (hb hby d14_3) rfl (flt (hq : ¬ (vk < vm))).1 ?_
    refine XS.iconst X0.here hx rfl (hb hby d14_6) ?_
    exact k)
  exact own_retN X0 hx (t := .boolean) (w := (1 : Int32)) hret (by decide) rfl hlk (hb hby d14_7) (by rw [e0]; exact (⟨rfl, N0, KK0⟩)) (by decide) (by decide)
def own_Qlaw (Z : State) (p0 p1 p2 p3 p4 p5 : Int32) (h0 : Heap) (n0 : Nat) (v : Option Value) (h : Heap) (L : List Loc) : Prop := (v = some (.int 1) ∧ Fr n0 L ∧ Keep h0 h [])
theorem own_sglaw00 (l : Launch) (Z : State) (a0 : Array Value) (hw : ∀ d ∈ tables_1, d.before a0 Z = true) (hst : own_St Z) (p0 p1 p2 p3 p4 p5 : Int32) (h0 : Heap) (n0 : Nat) (ob : Addr) (kb : ClassId) (oa : Addr) (ua : Addr) (va : Int32) (vb : Int32) (c0 : Int32) (c1 : Int32) (c2 : Int32) (c3 : Int32) (ow : Addr)
    {p : Program} {e : Env} {s : State} {m : MethodId} {args : Array Value} {below : List Frame} {meth : Method} {c : Code} (hx : p.tables.exec = Jvm.exec) (hby : c.code = code) (hret : meth.sig.returnType = ret) (hlk : meth.locks = false) (hml : c.maxLocals = 15) (hnm : meth.name = "law") {vm0 : Vm} {k0 : Nat} (hS0 : s.Since vm0 k0) (hh : s.heap = h0) (hZ : Z.Warmed39 (s.setVm vm0).vm) (hown : (s.setVm vm0).vm.findClass "com/example/capstrike/capstrike/TermTextToStringPinLaw" = some m.cls)
    {T0 : State} {locs : List Loc} {h : Heap} (X0 : Stand p l e room_1 (s.setVm vm0) m args below meth c T0 locs 5 20) (e0 : T0.heap = h) (hk0 : k0 ≤ h.size) (Ch0 : CHr Z consts_1 s.vm h0 vm0 h) (N0 : Fr n0 locs) (Xo0 : Old Z n0 h) (KK0 : Keep h0 h []) (l0 : ¬ c0 < 0 ∧ ¬ (255 : Int32) < c0) (l1 : ¬ c1 < 0 ∧ ¬ (255 : Int32) < c1) (l2 : ¬ c2 < 0 ∧ ¬ (255 : Int32) < c2) (l3 : ¬ c3 < 0 ∧ ¬ (255 : Int32) < c3) (hS : own_Str Z h oa ua ([c0, c1, c2, c3] : List Int32)) (hA : Arv Z h ob kb .char (4 : Int32) [(.int c0), (.int c1), (.int c2), (.int c3)] (.int (0 : Int32))) (hE : Exa Z h ow nm1) (f1 : Fld Z h ow nm1 "text" nm2 (.ref oa)) (f2 : Fld Z h ow nm1 "start" "I" (.int 0)) (f3 : Fld Z h ow nm1 "end" "I" (.int 0)) :
    own_Go p e below (own_PostH Z s (own_Qlaw Z p0 p1 p2 p3 p4 p5 h0 n0) room_1.cells room_1.slots) (T0.setTop (mkF m 107 #[sI p0, sI p1, sI p2, sI p3, sI p4, sI p5, sR ob, sR oa, sI va, sI vb, sI 0, sI 0, sR ow, .unset, .unset] [])) := by
  obtain ⟨⟨G1, O2, P5⟩, ⟨G3, O4, rG3⟩, -⟩ := id hst
  refine own_to (V := T0.setTop (mkF m 109 #[sI p0, sI p1, sI p2, sI p3, sI p4, sI p5, sR ob, sR oa, sI va, sI vb, sI 0, sI 0, sR ow, .unset, .unset] [(.ref ow)])) ?_ fun t k => (by
    refine XS.aload X0.here hx rfl (hb hby at_107) rfl rfl ?_
    exact k)
  obtain ⟨cq101, kq101, q101a, q101b, q101c⟩ := isOf hZ e0 hE
  obtain ⟨_, _, ⟨T101, L101, k101, n101⟩, -, X101', hS101', hg101, ⟨Lc101, hQ101, l101, y101, z101, hC101'⟩, st101⟩ := X0.virtualBackS hx (y := own_mn12) (z := own_mn12) hown (mvT hZ (own_i hw 56 rfl)) (mvT hZ (own_i hw 57 rfl)) (notFace_of_selects (args := #[]) (mvT hZ (own_i hw 59 rfl))) (mvT hZ (own_i hw 59 rfl)) (mvT hZ (own_i hw 58 rfl)) (by decide) (backOfSH (W := 0) (own_rmtos00 l Z a0 hw hst [] ow oa ua c0 c1 c2 c3 h n0 Xo0 l0 l1 l2 l3 hE f1 f2 f3 hS) hZ (own_i hw 60 rfl) (own_i hw 40 rfl) (by decide) (by decide) (own_hEL hw) Ch0.1) q101a q101c (g := (mkF m 109 #[sI p0, sI p1, sI p2, sI p3, sI p4, sI p5, sR ob, sR oa, sI va, sI vb, sI 0, sI 0, sR ow, .unset, .unset] [(.ref ow)])) rfl (by rw [hml]; rfl) (Steps.refl _) (argsL := []) (rest := []) (lenOf own_pd12 rfl) rfl (by show 2 * 0 + _ ≤ _; exact Nat.le_of_eq rfl) (hb hby at_109) (fun _ _ => ⟨rfl, e0, (by decide : 5 + 2 ≤ _), (by decide : 20 + 4 ≤ _)⟩)
  dsimp only [own_R, Pt.U, Pt.locs, Pt.cells, Pt.slots] at X101' hS101' hg101 l101 y101 z101 st101 hQ101 hC101'
  subst y101 z101
  obtain ⟨X101, hS101, hZ101, hown101⟩ := rebS hS0 (own_hk e0 hk0) X101' hS101' hg101 hZ hown
  obtain ⟨oo101, ou101, hv101, N101q, K101, g101_0⟩ := hQ101
  subst hv101
  obtain ⟨h101, e101⟩ : ∃ z, T101.heap = z := ⟨_, rfl⟩
  rw [e101] at K101 g101_0 hC101'
  have Cs101 : CHr Z consts_1 vm0 h T101.vm h101 := hC101'
  have Ch101 := Ch0.trans Cs101
  have Xo101 := Xo0.keep K101 all0
  have KK101 := KK0.trans K101 all0
  have hk101 : T101.heap.size ≤ h101.size := by rw [e101]; exact Nat.le_refl _
  have N101 : Fr n0 L101 := by rw [l101]; exact Fr.app N0 N101q
  refine own_to ?_ (fun t k => st101.trans k)
  refine own_to (V := T101.setTop (mkF m 123 #[sI p0, sI p1, sI p2, sI p3, sI p4, sI p5, sR ob, sR oa, sI va, sI vb, sI 0, sI 0, sR ow, sR oo101, sI 0] [(.ref oo101)])) ?_ fun t k => (by
    refine XS.astore X101.here hx rfl (hb hby at_112) rfl rfl (l' := #[sI p0, sI p1, sI p2, sI p3, sI p4, sI p5, sR ob, sR oa, sI va, sI vb, sI 0, sI 0, sR ow, sR oo101, .unset]) rfl ?_
    refine XS.iload X101.here hx rfl (hb hby at_114) rfl ?_
    refine XS.iload X101.here hx rfl (hb hby at_116) rfl ?_
    refine XS.isub X101.here hx rfl (hb hby at_118) rfl ?_
    refine XS.istore X101.here hx rfl (hb hby at_119) rfl (l' := #[sI p0, sI p1, sI p2, sI p3, sI p4, sI p5, sR ob, sR oa, sI va, sI vb, sI 0, sI 0, sR ow, sR oo101, sI 0]) rfl ?_
    refine XS.aload X101.here hx rfl (hb hby at_121) rfl rfl ?_
    exact k)
  obtain ⟨sE103, sd103, sN103, sk103, sv103, sV103, sC103, sK103, sc103, sb103, sl103⟩ := id g101_0
  obtain ⟨cq102, kq102, q102a, q102b, q102c⟩ := isOf hZ101 e101 g101_0.1
  obtain ⟨_, _, ⟨T102, L102, k102, n102⟩, -, X102, ⟨Lc102, hQ102, l102, y102, z102⟩, st102⟩ := X101.virtualBack hx (y := own_mn11) (z := own_mn11) hown101 (mvT hZ101 (own_i hw 112 rfl)) (mvT hZ101 (own_i hw 67 rfl)) (notFace_of_selects (args := #[]) (mvT hZ101 (own_i hw 69 rfl))) (mvT hZ101 (own_i hw 69 rfl)) (mvT hZ101 (own_i hw 68 rfl)) (by decide) (StrChars.Road.lenW (W := 0) hZ101 (own_hln hw) (kI := 4) (own_i hw 2 rfl) sE103 sV103 sC103 sK103 sc103 sb103 (O2.ext Xo101.2) P5 sl103 (by decide) (by decide)) q102a q102c (g := (mkF m 123 #[sI p0, sI p1, sI p2, sI p3, sI p4, sI p5, sR ob, sR oa, sI va, sI vb, sI 0, sI 0, sR ow, sR oo101, sI 0] [(.ref oo101)])) rfl (by rw [hml]; rfl) (Steps.refl _) (argsL := []) (rest := []) (lenOf own_pd2 rfl) rfl (by show 2 * 0 + _ ≤ _; exact Nat.le_of_eq rfl) (hb hby at_123) (fun _ _ => ⟨rfl, e101, (by decide : 7 + 0 ≤ _), (by decide : 24 + 0 ≤ _)⟩)
  dsimp only [own_R, Pt.U, Pt.locs, Pt.cells, Pt.slots] at X102 l102 y102 z102 st102 hQ102
  subst y102 z102
  obtain ⟨hv102, hL102, hh102⟩ := hQ102
  subst hL102
  have N102 : Fr n0 L102 := by rw [l102]; exact Fr.app N101 (Fr.nil n0)
  subst hv102
  refine own_to ?_ (fun t k => st102.trans k)
  refine own_to (V := T102.setTop (mkF m 142 #[sI p0, sI p1, sI p2, sI p3, sI p4, sI p5, sR ob, sR oa, sI va, sI vb, sI 0, sI 0, sR ow, sR oo101, sI 0] [(.int 0), (.int 0), (.ref ob), (.int 0), (.ref oo101)])) ?_ fun t k => (by
    refine XS.iload X102.here hx rfl (hb hby at_126) rfl ?_
    refine XS.icmpYes X102.here hx rfl (pc0 := 128) (pc' := 133) rfl (hb hby at_128) rfl (teq ((by decide) : (0 : Int32) = (0 : Int32))).1 (by decide) (by decide) ?_
    refine XS.aload X102.here hx rfl (hb hby at_133) rfl rfl ?_
    refine XS.iconst X102.here hx rfl (hb hby at_135) ?_
    refine XS.aload X102.here hx rfl (hb hby at_136) rfl rfl ?_
    refine XS.iload X102.here hx rfl (hb hby at_138) rfl ?_
    refine XS.iload X102.here hx rfl (hb hby at_140) rfl ?_
    exact k)
  obtain ⟨_, T104, h104, L104, Lc104, X104, e104, hQ104, l104, st104⟩ := own_cS (own_rmsm l Z a0 hw hst [] (.ref oo101) (0 : Int32) (.ref ob) (0 : Int32) (0 : Int32) h101 n0 Xo101 rfl rfl (by first | assumption | decide | omega | (simp; done) | rfl)) X102 hx hZ101 hown101 hh102 (own_i hw 113 rfl) (own_i hw 114 rfl) (own_i hw 115 rfl) (own_i hw 116 rfl) (by decide) (g := (mkF m 142 #[sI p0, sI p1, sI p2, sI p3, sI p4, sI p5, sR ob, sR oa, sI va, sI vb, sI 0, sI 0, sR ow, sR oo101, sI 0] [(.int 0), (.int 0), (.ref ob), (.int 0), (.ref oo101)])) rfl (by rw [hml]; rfl) (argsL := [(.ref oo101), (.int 0), (.ref ob), (.int 0), (.int 0)]) (rest := []) (lenOf own_pd13 rfl) rfl rfl (hb hby at_142) (W := 0) (Nat.le_of_eq rfl) (K := 7) (N := 24) rfl rfl (by decide) (by decide) (by decide) (by decide)
  obtain ⟨hv104, N104q, K104⟩ := hQ104
  subst hv104
  have Cs104 : CHr Z consts_1 T101.vm h101 T101.vm h104 := CHr.keep K104 sf0 Ch101.1
  have Ch104 := Ch101.trans Cs104
  have Xo104 := Xo101.keep K104 all0
  have KK104 := KK101.trans K104 all0
  have N104 := l104 _ N102 N104q
  refine own_to ?_ st104
  refine own_to (V := T104.setTop (mkF m 157 #[sI p0, sI p1, sI p2, sI p3, sI p4, sI p5, sR ob, sR oa, sI va, sI vb, sI 0, sI 0, sR ow, sR oo101, sI 0] [(.int 0), (.int 0), (.ref ob), (.int 1), (.ref oo101)])) ?_ fun t k => (by
    refine XS.ifNo X104.here hx rfl (hb hby at_145) rfl ((if0 _ _).trans (feq ((by decide) : ¬ ((1 : Int32) = (0 : Int32)))).1) ?_
    refine XS.aload X104.here hx rfl (hb hby at_148) rfl rfl ?_
    refine XS.iconst X104.here hx rfl (hb hby at_150) ?_
    refine XS.aload X104.here hx rfl (hb hby at_151) rfl rfl ?_
    refine XS.iload X104.here hx rfl (hb hby at_153) rfl ?_
    refine XS.iload X104.here hx rfl (hb hby at_155) rfl ?_
    exact k)
  obtain ⟨_, T105, h105, L105, Lc105, X105, e105, hQ105, l105, st105⟩ := own_cS (own_rmsm l Z a0 hw hst [] (.ref oo101) (1 : Int32) (.ref ob) (0 : Int32) (0 : Int32) h104 n0 Xo104 rfl rfl (by first | assumption | decide | omega | (simp; done) | rfl)) X104 hx hZ101 hown101 e104 (own_i hw 113 rfl) (own_i hw 114 rfl) (own_i hw 115 rfl) (own_i hw 116 rfl) (by decide) (g := (mkF m 157 #[sI p0, sI p1, sI p2, sI p3, sI p4, sI p5, sR ob, sR oa, sI va, sI vb, sI 0, sI 0, sR ow, sR oo101, sI 0] [(.int 0), (.int 0), (.ref ob), (.int 1), (.ref oo101)])) rfl (by rw [hml]; rfl) (argsL := [(.ref oo101), (.int 1), (.ref ob), (.int 0), (.int 0)]) (rest := []) (lenOf own_pd13 rfl) rfl rfl (hb hby at_157) (W := 0) (Nat.le_of_eq rfl) (K := 7) (N := 24) rfl rfl (by decide) (by decide) (by decide) (by decide)
  obtain ⟨hv105, N105q, K105⟩ := hQ105
  subst hv105
  have Cs105 : CHr Z consts_1 T101.vm h104 T101.vm h105 := CHr.keep K105 sf0 Ch104.1
  have Ch105 := Ch104.trans Cs105
  have Xo105 := Xo104.keep K105 all0
  have KK105 := KK104.trans K105 all0
  have N105 := l105 _ N104 N105q
  refine own_to ?_ st105
  refine own_to (V := T105.setTop (mkF m 172 #[sI p0, sI p1, sI p2, sI p3, sI p4, sI p5, sR ob, sR oa, sI va, sI vb, sI 0, sI 0, sR ow, sR oo101, sI 0] [(.int 0), (.int 0), (.ref ob), (.int 2), (.ref oo101)])) ?_ fun t k => (by
    refine XS.ifNo X105.here hx rfl (hb hby at_160) rfl ((if0 _ _).trans (feq ((by decide) : ¬ ((1 : Int32) = (0 : Int32)))).1) ?_
    refine XS.aload X105.here hx rfl (hb hby at_163) rfl rfl ?_
    refine XS.iconst X105.here hx rfl (hb hby at_165) ?_
    refine XS.aload X105.here hx rfl (hb hby at_166) rfl rfl ?_
    refine XS.iload X105.here hx rfl (hb hby at_168) rfl ?_
    refine XS.iload X105.here hx rfl (hb hby at_170) rfl ?_
    exact k)
  obtain ⟨_, T106, h106, L106, Lc106, X106, e106, hQ106, l106, st106⟩ := own_cS (own_rmsm l Z a0 hw hst [] (.ref oo101) (2 : Int32) (.ref ob) (0 : Int32) (0 : Int32) h105 n0 Xo105 rfl rfl (by first | assumption | decide | omega | (simp; done) | rfl)) X105 hx hZ101 hown101 e105 (own_i hw 113 rfl) (own_i hw 114 rfl) (own_i hw 115 rfl) (own_i hw 116 rfl) (by decide) (g := (mkF m 172 #[sI p0, sI p1, sI p2, sI p3, sI p4, sI p5, sR ob, sR oa, sI va, sI vb, sI 0, sI 0, sR ow, sR oo101, sI 0] [(.int 0), (.int 0), (.ref ob), (.int 2), (.ref oo101)])) rfl (by rw [hml]; rfl) (argsL := [(.ref oo101), (.int 2), (.ref ob), (.int 0), (.int 0)]) (rest := []) (lenOf own_pd13 rfl) rfl rfl (hb hby at_172) (W := 0) (Nat.le_of_eq rfl) (K := 7) (N := 24) rfl rfl (by decide) (by decide) (by decide) (by decide)
  obtain ⟨hv106, N106q, K106⟩ := hQ106
  subst hv106
  have Cs106 : CHr Z consts_1 T101.vm h105 T101.vm h106 := CHr.keep K106 sf0 Ch105.1
  have Ch106 := Ch105.trans Cs106
  have Xo106 := Xo105.keep K106 all0
  have KK106 := KK105.trans K106 all0
  have N106 := l106 _ N105 N106q
  refine own_to ?_ st106
  refine own_to (V := T106.setTop (mkF m 187 #[sI p0, sI p1, sI p2, sI p3, sI p4, sI p5, sR ob, sR oa, sI va, sI vb, sI 0, sI 0, sR ow, sR oo101, sI 0] [(.int 0), (.int 0), (.ref ob), (.int 3), (.ref oo101)])) ?_ fun t k => (by
    refine XS.ifNo X106.here hx rfl (hb hby at_175) rfl ((if0 _ _).trans (feq ((by decide) : ¬ ((1 : Int32) = (0 : Int32)))).1) ?_
    refine XS.aload X106.here hx rfl (hb hby at_178) rfl rfl ?_
    refine XS.iconst X106.here hx rfl (hb hby at_180) ?_
    refine XS.aload X106.here hx rfl (hb hby at_181) rfl rfl ?_
    refine XS.iload X106.here hx rfl (hb hby at_183) rfl ?_
    refine XS.iload X106.here hx rfl (hb hby at_185) rfl ?_
    exact k)
  obtain ⟨_, T107, h107, L107, Lc107, X107, e107, hQ107, l107, st107⟩ := own_cS (own_rmsm l Z a0 hw hst [] (.ref oo101) (3 : Int32) (.ref ob) (0 : Int32) (0 : Int32) h106 n0 Xo106 rfl rfl (by first | assumption | decide | omega | (simp; done) | rfl)) X106 hx hZ101 hown101 e106 (own_i hw 113 rfl) (own_i hw 114 rfl) (own_i hw 115 rfl) (own_i hw 116 rfl) (by decide) (g := (mkF m 187 #[sI p0, sI p1, sI p2, sI p3, sI p4, sI p5, sR ob, sR oa, sI va, sI vb, sI 0, sI 0, sR ow, sR oo101, sI 0] [(.int 0), (.int 0), (.ref ob), (.int 3), (.ref oo101)])) rfl (by rw [hml]; rfl) (argsL := [(.ref oo101), (.int 3), (.ref ob), (.int 0), (.int 0)]) (rest := []) (lenOf own_pd13 rfl) rfl rfl (hb hby at_187) (W := 0) (Nat.le_of_eq rfl) (K := 7) (N := 24) rfl rfl (by decide) (by decide) (by decide) (by decide)
  obtain ⟨hv107, N107q, K107⟩ := hQ107
  subst hv107
  have Cs107 : CHr Z consts_1 T101.vm h106 T101.vm h107 := CHr.keep K107 sf0 Ch106.1
  have Ch107 := Ch106.trans Cs107
  have Xo107 := Xo106.keep K107 all0
  have KK107 := KK106.trans K107 all0
  have N107 := l107 _ N106 N107q
  refine own_to ?_ st107
  refine own_to (V := T107.setTop (mkF m 198 #[sI p0, sI p1, sI p2, sI p3, sI p4, sI p5, sR ob, sR oa, sI va, sI vb, sI 0, sI 0, sR ow, sR oo101, sI 0] [(.int 1)])) ?_ fun t k => (by
    refine XS.ifNo X107.here hx rfl (hb hby at_190) rfl ((if0 _ _).trans (feq ((by decide) : ¬ ((1 : Int32) = (0 : Int32)))).1) ?_
    refine XS.iconst X107.here hx rfl (hb hby at_193) ?_
    refine XS.goto X107.here hx rfl (pc0 := 194) (pc' := 198) rfl (hb hby at_194) (by decide) (by decide) ?_
    exact k)
  exact own_retNH X107 hx hS101 (own_hk e107 (Nat.le_trans (Nat.le_trans (Nat.le_trans (Nat.le_trans hk101 K104.1) K105.1) K106.1) K107.1)) (by rw [e107, hh]; exact Ch107.trans (CHv.at X107 hZ101 (own_hEL hw) Ch107.1)) (t := .boolean) (w := (1 : Int32)) hret (by decide) rfl hlk (hb hby at_198) (by rw [e107]; exact (⟨rfl, N107, KK107⟩)) (by decide) (by decide)
theorem own_sglaw01 (l : Launch) (Z : State) (a0 : Array Value) (hw : ∀ d ∈ tables_1, d.before a0 Z = true) (hst : own_St Z) (p0 p1 p2 p3 p4 p5 : Int32) (h0 : Heap) (n0 : Nat) (ob : Addr) (kb : ClassId) (oa : Addr) (ua : Addr) (va : Int32) (vb : Int32) (c0 : Int32) (c1 : Int32) (c2 : Int32) (c3 : Int32) (ow : Addr)
    {p : Program} {e : Env} {s : State} {m : MethodId} {args : Array Value} {below : List Frame} {meth : Method} {c : Code} (hx : p.tables.exec = Jvm.exec) (hby : c.code = code) (hret : meth.sig.returnType = ret) (hlk : meth.locks = false) (hml : c.maxLocals = 15) (hnm : meth.name = "law") {vm0 : Vm} {k0 : Nat} (hS0 : s.Since vm0 k0) (hh : s.heap = h0) (hZ : Z.Warmed39 (s.setVm vm0).vm) (hown : (s.setVm vm0).vm.findClass "com/example/capstrike/capstrike/TermTextToStringPinLaw" = some m.cls)
    {T0 : State} {locs : List Loc} {h : Heap} (X0 : Stand p l e room_1 (s.setVm vm0) m args below meth c T0 locs 5 20) (e0 : T0.heap = h) (hk0 : k0 ≤ h.size) (Ch0 : CHr Z consts_1 s.vm h0 vm0 h) (N0 : Fr n0 locs) (Xo0 : Old Z n0 h) (KK0 : Keep h0 h []) (l0 : ¬ c0 < 0 ∧ ¬ (255 : Int32) < c0) (l1 : ¬ c1 < 0 ∧ ¬ (255 : Int32) < c1) (l2 : ¬ c2 < 0 ∧ ¬ (255 : Int32) < c2) (l3 : ¬ c3 < 0 ∧ ¬ (255 : Int32) < c3) (hS : own_Str Z h oa ua ([c0, c1, c2, c3] : List Int32)) (hA : Arv Z h ob kb .char (4 : Int32) [(.int c0), (.int c1), (.int c2), (.int c3)] (.int (0 : Int32))) (hE : Exa Z h ow nm1) (f1 : Fld Z h ow nm1 "text" nm2 (.ref oa)) (f2 : Fld Z h ow nm1 "start" "I" (.int 0)) (f3 : Fld Z h ow nm1 "end" "I" (.int 1)) :
    own_Go p e below (own_PostH Z s (own_Qlaw Z p0 p1 p2 p3 p4 p5 h0 n0) room_1.cells room_1.slots) (T0.setTop (mkF m 107 #[sI p0, sI p1, sI p2, sI p3, sI p4, sI p5, sR ob, sR oa, sI va, sI vb, sI 0, sI 1, sR ow, .unset, .unset] [])) := by
  obtain ⟨⟨G1, O2, P5⟩, ⟨G3, O4, rG3⟩, -⟩ := id hst
  refine own_to (V := T0.setTop (mkF m 109 #[sI p0, sI p1, sI p2, sI p3, sI p4, sI p5, sR ob, sR oa, sI va, sI vb, sI 0, sI 1, sR ow, .unset, .unset] [(.ref ow)])) ?_ fun t k => (by
    refine XS.aload X0.here hx rfl (hb hby at_107) rfl rfl ?_
    exact k)
  obtain ⟨_, T101, h101, L101, Lc101, X101, e101, hQ101, l101, st101⟩ := own_cV (own_rmtos01 l Z a0 hw hst [] ow oa ua c0 c1 c2 c3 h n0 Xo0 l0 l1 l2 l3 hE f1 f2 f3 hS) X0 hx hZ hown e0 hE (own_i hw 56 rfl) (own_i hw 57 rfl) (notFace_of_selects (args := #[]) (mvT hZ (own_i hw 59 rfl))) (own_i hw 59 rfl) (own_i hw 58 rfl) (own_i hw 40 rfl) (own_i hw 60 rfl) (by decide) (g := (mkF m 109 #[sI p0, sI p1, sI p2, sI p3, sI p4, sI p5, sR ob, sR oa, sI va, sI vb, sI 0, sI 1, sR ow, .unset, .unset] [(.ref ow)])) rfl (by rw [hml]; rfl) (argsL := []) (rest := []) (lenOf own_pd12 rfl) rfl rfl (hb hby at_109) (W := 0) (Nat.le_of_eq rfl) (K := 7) (N := 25) rfl rfl (by decide) (by decide) (by decide) (by decide)
  obtain ⟨oo101, ou101, hv101, N101q, K101, g101_0⟩ := hQ101
  subst hv101
  have Cs101 : CHr Z consts_1 vm0 h vm0 h101 := CHr.keep K101 sf0 Ch0.1
  have Ch101 := Ch0.trans Cs101
  have Xo101 := Xo0.keep K101 all0
  have KK101 := KK0.trans K101 all0
  have N101 := l101 _ N0 N101q
  refine own_to ?_ st101
  refine own_to (V := T101.setTop (mkF m 123 #[sI p0, sI p1, sI p2, sI p3, sI p4, sI p5, sR ob, sR oa, sI va, sI vb, sI 0, sI 1, sR ow, sR oo101, sI 1] [(.ref oo101)])) ?_ fun t k => (by
    refine XS.astore X101.here hx rfl (hb hby at_112) rfl rfl (l' := #[sI p0, sI p1, sI p2, sI p3, sI p4, sI p5, sR ob, sR oa, sI va, sI vb, sI 0, sI 1, sR ow, sR oo101, .unset]) rfl ?_
    refine XS.iload X101.here hx rfl (hb hby at_114) rfl ?_
    refine XS.iload X101.here hx rfl (hb hby at_116) rfl ?_
    refine XS.isub X101.here hx rfl (hb hby at_118) rfl ?_
    refine XS.istore X101.here hx rfl (hb hby at_119) rfl (l' := #[sI p0, sI p1, sI p2, sI p3, sI p4, sI p5, sR ob, sR oa, sI va, sI vb, sI 0, sI 1, sR ow, sR oo101, sI 1]) rfl ?_
    refine XS.aload X101.here hx rfl (hb hby at_121) rfl rfl ?_
    exact k)
  obtain ⟨sE103, sd103, sN103, sk103, sv103, sV103, sC103, sK103, sc103, sb103, sl103⟩ := id g101_0
  obtain ⟨cq102, kq102, q102a, q102b, q102c⟩ := isOf hZ e101 g101_0.1
  obtain ⟨_, _, ⟨T102, L102, k102, n102⟩, -, X102, ⟨Lc102, hQ102, l102, y102, z102⟩, st102⟩ := X101.virtualBack hx (y := own_mn11) (z := own_mn11) hown (mvT hZ (own_i hw 112 rfl)) (mvT hZ (own_i hw 67 rfl)) (notFace_of_selects (args := #[]) (mvT hZ (own_i hw 69 rfl))) (mvT hZ (own_i hw 69 rfl)) (mvT hZ (own_i hw 68 rfl)) (by decide) (StrChars.Road.lenW (W := 0) hZ (own_hln hw) (kI := 4) (own_i hw 2 rfl) sE103 sV103 sC103 sK103 sc103 sb103 (O2.ext Xo101.2) P5 sl103 (by decide) (by decide)) q102a q102c (g := (mkF m 123 #[sI p0, sI p1, sI p2, sI p3, sI p4, sI p5, sR ob, sR oa, sI va, sI vb, sI 0, sI 1, sR ow, sR oo101, sI 1] [(.ref oo101)])) rfl (by rw [hml]; rfl) (Steps.refl _) (argsL := []) (rest := []) (lenOf own_pd2 rfl) rfl (by show 2 * 0 + _ ≤ _; exact Nat.le_of_eq rfl) (hb hby at_123) (fun _ _ => ⟨rfl, e101, (by decide : 7 + 0 ≤ _), (by decide : 25 + 0 ≤ _)⟩)
  dsimp only [own_R, Pt.U, Pt.locs, Pt.cells, Pt.slots] at X102 l102 y102 z102 st102 hQ102
  subst y102 z102
  obtain ⟨hv102, hL102, hh102⟩ := hQ102
  subst hL102
  have N102 : Fr n0 L102 := by rw [l102]; exact Fr.app N101 (Fr.nil n0)
  subst hv102
  refine own_to ?_ (fun t k => st102.trans k)
  refine own_to (V := T102.setTop (mkF m 142 #[sI p0, sI p1, sI p2, sI p3, sI p4, sI p5, sR ob, sR oa, sI va, sI vb, sI 0, sI 1, sR ow, sR oo101, sI 1] [(.int 1), (.int 0), (.ref ob), (.int 0), (.ref oo101)])) ?_ fun t k => (by
    refine XS.iload X102.here hx rfl (hb hby at_126) rfl ?_
    refine XS.icmpYes X102.here hx rfl (pc0 := 128) (pc' := 133) rfl (hb hby at_128) rfl (teq ((by decide) : (1 : Int32) = (1 : Int32))).1 (by decide) (by decide) ?_
    refine XS.aload X102.here hx rfl (hb hby at_133) rfl rfl ?_
    refine XS.iconst X102.here hx rfl (hb hby at_135) ?_
    refine XS.aload X102.here hx rfl (hb hby at_136) rfl rfl ?_
    refine XS.iload X102.here hx rfl (hb hby at_138) rfl ?_
    refine XS.iload X102.here hx rfl (hb hby at_140) rfl ?_
    exact k)
  have F105 := (hA.keep K101 List.not_mem_nil)
  obtain ⟨_, T104, h104, L104, Lc104, X104, e104, hQ104, l104, st104⟩ := own_cS (own_rmsm100 l Z a0 hw hst [] oo101 ou101 ob kb c0 c1 c2 c3 h101 n0 Xo101 l0 l1 l2 l3 g101_0 F105) X102 hx hZ hown hh102 (own_i hw 113 rfl) (own_i hw 114 rfl) (own_i hw 115 rfl) (own_i hw 116 rfl) (by decide) (g := (mkF m 142 #[sI p0, sI p1, sI p2, sI p3, sI p4, sI p5, sR ob, sR oa, sI va, sI vb, sI 0, sI 1, sR ow, sR oo101, sI 1] [(.int 1), (.int 0), (.ref ob), (.int 0), (.ref oo101)])) rfl (by rw [hml]; rfl) (argsL := [(.ref oo101), (.int 0), (.ref ob), (.int 0), (.int 1)]) (rest := []) (lenOf own_pd13 rfl) rfl rfl (hb hby at_142) (W := 0) (Nat.le_of_eq rfl) (K := 7) (N := 25) rfl rfl (by decide) (by decide) (by decide) (by decide)
  obtain ⟨hv104, N104q, K104⟩ := hQ104
  subst hv104
  have Cs104 : CHr Z consts_1 vm0 h101 vm0 h104 := CHr.keep K104 sf0 Ch101.1
  have Ch104 := Ch101.trans Cs104
  have Xo104 := Xo101.keep K104 all0
  have KK104 := KK101.trans K104 all0
  have N104 := l104 _ N102 N104q
  refine own_to ?_ st104
  refine own_to (V := T104.setTop (mkF m 157 #[sI p0, sI p1, sI p2, sI p3, sI p4, sI p5, sR ob, sR oa, sI va, sI vb, sI 0, sI 1, sR ow, sR oo101, sI 1] [(.int 1), (.int 0), (.ref ob), (.int 1), (.ref oo101)])) ?_ fun t k => (by
    refine XS.ifNo X104.here hx rfl (hb hby at_145) rfl ((if0 _ _).trans (feq ((by decide) : ¬ ((1 : Int32) = (0 : Int32)))).1) ?_
    refine XS.aload X104.here hx rfl (hb hby at_148) rfl rfl ?_
    refine XS.iconst X104.here hx rfl (hb hby at_150) ?_
    refine XS.aload X104.here hx rfl (hb hby at_151) rfl rfl ?_
    refine XS.iload X104.here hx rfl (hb hby at_153) rfl ?_
    refine XS.iload X104.here hx rfl (hb hby at_155) rfl ?_
    exact k)
  obtain ⟨_, T106, h106, L106, Lc106, X106, e106, hQ106, l106, st106⟩ := own_cS (own_rmsm l Z a0 hw hst [] (.ref oo101) (1 : Int32) (.ref ob) (0 : Int32) (1 : Int32) h104 n0 Xo104 rfl rfl (by first | assumption | decide | omega | (simp; done) | rfl)) X104 hx hZ hown e104 (own_i hw 113 rfl) (own_i hw 114 rfl) (own_i hw 115 rfl) (own_i hw 116 rfl) (by decide) (g := (mkF m 157 #[sI p0, sI p1, sI p2, sI p3, sI p4, sI p5, sR ob, sR oa, sI va, sI vb, sI 0, sI 1, sR ow, sR oo101, sI 1] [(.int 1), (.int 0), (.ref ob), (.int 1), (.ref oo101)])) rfl (by rw [hml]; rfl) (argsL := [(.ref oo101), (.int 1), (.ref ob), (.int 0), (.int 1)]) (rest := []) (lenOf own_pd13 rfl) rfl rfl (hb hby at_157) (W := 0) (Nat.le_of_eq rfl) (K := 7) (N := 25) rfl rfl (by decide) (by decide) (by decide) (by decide)
  obtain ⟨hv106, N106q, K106⟩ := hQ106
  subst hv106
  have Cs106 : CHr Z consts_1 vm0 h104 vm0 h106 := CHr.keep K106 sf0 Ch104.1
  have Ch106 := Ch104.trans Cs106
  have Xo106 := Xo104.keep K106 all0
  have KK106 := KK104.trans K106 all0
  have N106 := l106 _ N104 N106q
  refine own_to ?_ st106
  refine own_to (V := T106.setTop (mkF m 172 #[sI p0, sI p1, sI p2, sI p3, sI p4, sI p5, sR ob, sR oa, sI va, sI vb, sI 0, sI 1, sR ow, sR oo101, sI 1] [(.int 1), (.int 0), (.ref ob), (.int 2), (.ref oo101)])) ?_ fun t k => (by
    refine XS.ifNo X106.here hx rfl (hb hby at_160) rfl ((if0 _ _).trans (feq ((by decide) : ¬ ((1 : Int32) = (0 : Int32)))).1) ?_
    refine XS.aload X106.here hx rfl (hb hby at_163) rfl rfl ?_
    refine XS.iconst X106.here hx rfl (hb hby at_165) ?_
    refine XS.aload X106.here hx rfl (hb hby at_166) rfl rfl ?_
    refine XS.iload X106.here hx rfl (hb hby at_168) rfl ?_
    refine XS.iload X106.here hx rfl (hb hby at_170) rfl ?_
    exact k)
  obtain ⟨_, T107, h107, L107, Lc107, X107, e107, hQ107, l107, st107⟩ := own_cS (own_rmsm l Z a0 hw hst [] (.ref oo101) (2 : Int32) (.ref ob) (0 : Int32) (1 : Int32) h106 n0 Xo106 rfl rfl (by first | assumption | decide | omega | (simp; done) | rfl)) X106 hx hZ hown e106 (own_i hw 113 rfl) (own_i hw 114 rfl) (own_i hw 115 rfl) (own_i hw 116 rfl) (by decide) (g := (mkF m 172 #[sI p0, sI p1, sI p2, sI p3, sI p4, sI p5, sR ob, sR oa, sI va, sI vb, sI 0, sI 1, sR ow, sR oo101, sI 1] [(.int 1), (.int 0), (.ref ob), (.int 2), (.ref oo101)])) rfl (by rw [hml]; rfl) (argsL := [(.ref oo101), (.int 2), (.ref ob), (.int 0), (.int 1)]) (rest := []) (lenOf own_pd13 rfl) rfl rfl (hb hby at_172) (W := 0) (Nat.le_of_eq rfl) (K := 7) (N := 25) rfl rfl (by decide) (by decide) (by decide) (by decide)
  obtain ⟨hv107, N107q, K107⟩ := hQ107
  subst hv107
  have Cs107 : CHr Z consts_1 vm0 h106 vm0 h107 := CHr.keep K107 sf0 Ch106.1
  have Ch107 := Ch106.trans Cs107
  have Xo107 := Xo106.keep K107 all0
  have KK107 := KK106.trans K107 all0
  have N107 := l107 _ N106 N107q
  refine own_to ?_ st107
  refine own_to (V := T107.setTop (mkF m 187 #[sI p0, sI p1, sI p2, sI p3, sI p4, sI p5, sR ob, sR oa, sI va, sI vb, sI 0, sI 1, sR ow, sR oo101, sI 1] [(.int 1), (.int 0), (.ref ob), (.int 3), (.ref oo101)])) ?_ fun t k => (by
    refine XS.ifNo X107.here hx rfl (hb hby at_175) rfl ((if0 _ _).trans (feq ((by decide) : ¬ ((1 : Int32) = (0 : Int32)))).1) ?_
    refine XS.aload X107.here hx rfl (hb hby at_178) rfl rfl ?_
    refine XS.iconst X107.here hx rfl (hb hby at_180) ?_
    refine XS.aload X107.here hx rfl (hb hby at_181) rfl rfl ?_
    refine XS.iload X107.here hx rfl (hb hby at_183) rfl ?_
    refine XS.iload X107.here hx rfl (hb hby at_185) rfl ?_
    exact k)
  obtain ⟨_, T108, h108, L108, Lc108, X108, e108, hQ108, l108, st108⟩ := own_cS (own_rmsm l Z a0 hw hst [] (.ref oo101) (3 : Int32) (.ref ob) (0 : Int32) (1 : Int32) h107 n0 Xo107 rfl rfl (by first | assumption | decide | omega | (simp; done) | rfl)) X107 hx hZ hown e107 (own_i hw 113 rfl) (own_i hw 114 rfl) (own_i hw 115 rfl) (own_i hw 116 rfl) (by decide) (g := (mkF m 187 #[sI p0, sI p1, sI p2, sI p3, sI p4, sI p5, sR ob, sR oa, sI va, sI vb, sI 0, sI 1, sR ow, sR oo101, sI 1] [(.int 1), (.int 0), (.ref ob), (.int 3), (.ref oo101)])) rfl (by rw [hml]; rfl) (argsL := [(.ref oo101), (.int 3), (.ref ob), (.int 0), (.int 1)]) (rest := []) (lenOf own_pd13 rfl) rfl rfl (hb hby at_187) (W := 0) (Nat.le_of_eq rfl) (K := 7) (N := 25) rfl rfl (by decide) (by decide) (by decide) (by decide)
  obtain ⟨hv108, N108q, K108⟩ := hQ108
  subst hv108
  have Cs108 : CHr Z consts_1 vm0 h107 vm0 h108 := CHr.keep K108 sf0 Ch107.1
  have Ch108 := Ch107.trans Cs108
  have Xo108 := Xo107.keep K108 all0
  have KK108 := KK107.trans K108 all0
  have N108 := l108 _ N107 N108q
  refine own_to ?_ st108
  refine own_to (V := T108.setTop (mkF m 198 #[sI p0, sI p1, sI p2, sI p3, sI p4, sI p5, sR ob, sR oa, sI va, sI vb, sI 0, sI 1, sR ow, sR oo101, sI 1] [(.int 1)])) ?_ fun t k => (by
    refine XS.ifNo X108.here hx rfl (hb hby at_190) rfl ((if0 _ _).trans (feq ((by decide) : ¬ ((1 : Int32) = (0 : Int32)))).1) ?_
    refine XS.iconst X108.here hx rfl (hb hby at_193) ?_
    refine XS.goto X108.here hx rfl (pc0 := 194) (pc' := 198) rfl (hb hby at_194) (by decide) (by decide) ?_
    exact k)
  exact own_retNH X108 hx hS0 (own_hk e108 (Nat.le_trans (Nat.le_trans (Nat.le_trans (Nat.le_trans (Nat.le_trans hk0 K101.1) K104.1) K106.1) K107.1) K108.1)) (by rw [e108, hh]; exact Ch108.trans (CHv.at X108 hZ (own_hEL hw) Ch108.1)) (t := .boolean) (w := (1 : Int32)) hret (by decide) rfl hlk (hb hby at_198) (by rw [e108]; exact (⟨rfl, N108, KK108⟩)) (by decide) (by decide)
theorem own_sglaw02 (l : Launch) (Z : State) (a0 : Array Value) (hw : ∀ d ∈ tables_1, d.before a0 Z = true) (hst : own_St Z) (p0 p1 p2 p3 p4 p5 : Int32) (h0 : Heap) (n0 : Nat) (ob : Addr) (kb : ClassId) (oa : Addr) (ua : Addr) (va : Int32) (vb : Int32) (c0 : Int32) (c1 : Int32) (c2 : Int32) (c3 : Int32) (ow : Addr)
    {p : Program} {e : Env} {s : State} {m : MethodId} {args : Array Value} {below : List Frame} {meth : Method} {c : Code} (hx : p.tables.exec = Jvm.exec) (hby : c.code = code) (hret : meth.sig.returnType = ret) (hlk : meth.locks = false) (hml : c.maxLocals = 15) (hnm : meth.name = "law") {vm0 : Vm} {k0 : Nat} (hS0 : s.Since vm0 k0) (hh : s.heap = h0) (hZ : Z.Warmed39 (s.setVm vm0).vm) (hown : (s.setVm vm0).vm.findClass "com/example/capstrike/capstrike/TermTextToStringPinLaw" = some m.cls)
    {T0 : State} {locs : List Loc} {h : Heap} (X0 : Stand p l e room_1 (s.setVm vm0) m args below meth c T0 locs 5 20) (e0 : T0.heap = h) (hk0 : k0 ≤ h.size) (Ch0 : CHr Z consts_1 s.vm h0 vm0 h) (N0 : Fr n0 locs) (Xo0 : Old Z n0 h) (KK0 : Keep h0 h []) (l0 : ¬ c0 < 0 ∧ ¬ (255 : Int32) < c0) (l1 : ¬ c1 < 0 ∧ ¬ (255 : Int32) < c1) (l2 : ¬ c2 < 0 ∧ ¬ (255 : Int32) < c2) (l3 : ¬ c3 < 0 ∧ ¬ (255 : Int32) < c3) (hS : own_Str Z h oa ua ([c0, c1, c2, c3] : List Int32)) (hA : Arv Z h ob kb .char (4 : Int32) [(.int c0), (.int c1), (.int c2), (.int c3)] (.int (0 : Int32))) (hE : Exa Z h ow nm1) (f1 : Fld Z h ow nm1 "text" nm2 (.ref oa)) (f2 : Fld Z h ow nm1 "start" "I" (.int 0)) (f3 : Fld Z h ow nm1 "end" "I" (.int 2)) :
    own_Go p e below (own_PostH Z s (own_Qlaw Z p0 p1 p2 p3 p4 p5 h0 n0) room_1.cells room_1.slots) (T0.setTop (mkF m 107 #[sI p0, sI p1, sI p2, sI p3, sI p4, sI p5, sR ob, sR oa, sI va, sI vb, sI 0, sI 2, sR ow, .unset, .unset] [])) := by
  obtain ⟨⟨G1, O2, P5⟩, ⟨G3, O4, rG3⟩, -⟩ := id hst
  refine own_to (V := T0.setTop (mkF m 109 #[sI p0, sI p1, sI p2, sI p3, sI p4, sI p5, sR ob, sR oa, sI va, sI vb, sI 0, sI 2, sR ow, .unset, .unset] [(.ref ow)])) ?_ fun t k => (by
    refine XS.aload X0.here hx rfl (hb hby at_107) rfl rfl ?_
    exact k)
  obtain ⟨_, T101, h101, L101, Lc101, X101, e101, hQ101, l101, st101⟩ := own_cV (own_rmtos02 l Z a0 hw hst [] ow oa ua c0 c1 c2 c3 h n0 Xo0 l0 l1 l2 l3 hE f1 f2 f3 hS) X0 hx hZ hown e0 hE (own_i hw 56 rfl) (own_i hw 57 rfl) (notFace_of_selects (args := #[]) (mvT hZ (own_i hw 59 rfl))) (own_i hw 59 rfl) (own_i hw 58 rfl) (own_i hw 40 rfl) (own_i hw 60 rfl) (by decide) (g := (mkF m 109 #[sI p0, sI p1, sI p2, sI p3, sI p4, sI p5, sR ob, sR oa, sI va, sI vb, sI 0, sI 2, sR ow, .unset, .unset] [(.ref ow)])) rfl (by rw [hml]; rfl) (argsL := []) (rest := []) (lenOf own_pd12 rfl) rfl rfl (hb hby at_109) (W := 0) (Nat.le_of_eq rfl) (K := 7) (N := 26) rfl rfl (by decide) (by decide) (by decide) (by decide)
  obtain ⟨oo101, ou101, hv101, N101q, K101, g101_0⟩ := hQ101
  subst hv101
  have Cs101 : CHr Z consts_1 vm0 h vm0 h101 := CHr.keep K101 sf0 Ch0.1
  have Ch101 := Ch0.trans Cs101
  have Xo101 := Xo0.keep K101 all0
  have KK101 := KK0.trans K101 all0
  have N101 := l101 _ N0 N101q
  refine own_to ?_ st101
  refine own_to (V := T101.setTop (mkF m 123 #[sI p0, sI p1, sI p2, sI p3, sI p4, sI p5, sR ob, sR oa, sI va, sI vb, sI 0, sI 2, sR ow, sR oo101, sI 2] [(.ref oo101)])) ?_ fun t k => (by
    refine XS.astore X101.here hx rfl (hb hby at_112) rfl rfl (l' := #[sI p0, sI p1, sI p2, sI p3, sI p4, sI p5, sR ob, sR oa, sI va, sI vb, sI 0, sI 2, sR ow, sR oo101, .unset]) rfl ?_
    refine XS.iload X101.here hx rfl (hb hby at_114) rfl ?_
    refine XS.iload X101.here hx rfl (hb hby at_116) rfl ?_
    refine XS.isub X101.here hx rfl (hb hby at_118) rfl ?_
    refine XS.istore X101.here hx rfl (hb hby at_119) rfl (l' := #[sI p0, sI p1, sI p2, sI p3, sI p4, sI p5, sR ob, sR oa, sI va, sI vb, sI 0, sI 2, sR ow, sR oo101, sI 2]) rfl ?_
    refine XS.aload X101.here hx rfl (hb hby at_121) rfl rfl ?_
    exact k)
  obtain ⟨sE103, sd103, sN103, sk103, sv103, sV103, sC103, sK103, sc103, sb103, sl103⟩ := id g101_0
  obtain ⟨cq102, kq102, q102a, q102b, q102c⟩ := isOf hZ e101 g101_0.1
  obtain ⟨_, _, ⟨T102, L102, k102, n102⟩, -, X102, ⟨Lc102, hQ102, l102, y102, z102⟩, st102⟩ := X101.virtualBack hx (y := own_mn11) (z := own_mn11) hown (mvT hZ (own_i hw 112 rfl)) (mvT hZ (own_i hw 67 rfl)) (notFace_of_selects (args := #[]) (mvT hZ (own_i hw 69 rfl))) (mvT hZ (own_i hw 69 rfl)) (mvT hZ (own_i hw 68 rfl)) (by decide) (StrChars.Road.lenW (W := 0) hZ (own_hln hw) (kI := 4) (own_i hw 2 rfl) sE103 sV103 sC103 sK103 sc103 sb103 (O2.ext Xo101.2) P5 sl103 (by decide) (by decide)) q102a q102c (g := (mkF m 123 #[sI p0, sI p1, sI p2, sI p3, sI p4, sI p5, sR ob, sR oa, sI va, sI vb, sI 0, sI 2, sR ow, sR oo101, sI 2] [(.ref oo101)])) rfl (by rw [hml]; rfl) (Steps.refl _) (argsL := []) (rest := []) (lenOf own_pd2 rfl) rfl (by show 2 * 0 + _ ≤ _; exact Nat.le_of_eq rfl) (hb hby at_123) (fun _ _ => ⟨rfl, e101, (by decide : 7 + 0 ≤ _), (by decide : 26 + 0 ≤ _)⟩)
  dsimp only [own_R, Pt.U, Pt.locs, Pt.cells, Pt.slots] at X102 l102 y102 z102 st102 hQ102
  subst y102 z102
  obtain ⟨hv102, hL102, hh102⟩ := hQ102
  subst hL102
  have N102 : Fr n0 L102 := by rw [l102]; exact Fr.app N101 (Fr.nil n0)
  subst hv102
  refine own_to ?_ (fun t k => st102.trans k)
  refine own_to (V := T102.setTop (mkF m 142 #[sI p0, sI p1, sI p2, sI p3, sI p4, sI p5, sR ob, sR oa, sI va, sI vb, sI 0, sI 2, sR ow, sR oo101, sI 2] [(.int 2), (.int 0), (.ref ob), (.int 0), (.ref oo101)])) ?_ fun t k => (by
    refine XS.iload X102.here hx rfl (hb hby at_126) rfl ?_
    refine XS.icmpYes X102.here hx rfl (pc0 := 128) (pc' := 133) rfl (hb hby at_128) rfl (teq ((by decide) : (2 : Int32) = (2 : Int32))).1 (by decide) (by decide) ?_
    refine XS.aload X102.here hx rfl (hb hby at_133) rfl rfl ?_
    refine XS.iconst X102.here hx rfl (hb hby at_135) ?_
    refine XS.aload X102.here hx rfl (hb hby at_136) rfl rfl ?_
    refine XS.iload X102.here hx rfl (hb hby at_138) rfl ?_
    refine XS.iload X102.here hx rfl (hb hby at_140) rfl ?_
    exact k)
  have F105 := (hA.keep K101 List.not_mem_nil)
  obtain ⟨_, T104, h104, L104, Lc104, X104, e104, hQ104, l104, st104⟩ := own_cS (own_rmsm200 l Z a0 hw hst [] oo101 ou101 ob kb c0 c1 c2 c3 h101 n0 Xo101 l0 l1 l2 l3 g101_0 F105) X102 hx hZ hown hh102 (own_i hw 113 rfl) (own_i hw 114 rfl) (own_i hw 115 rfl) (own_i hw 116 rfl) (by decide) (g := (mkF m 142 #[sI p0, sI p1, sI p2, sI p3, sI p4, sI p5, sR ob, sR oa, sI va, sI vb, sI 0, sI 2, sR ow, sR oo101, sI 2] [(.int 2), (.int 0), (.ref ob), (.int 0), (.ref oo101)])) rfl (by rw [hml]; rfl) (argsL := [(.ref oo101), (.int 0), (.ref ob), (.int 0), (.int 2)]) (rest := []) (lenOf own_pd13 rfl) rfl rfl (hb hby at_142) (W := 0) (Nat.le_of_eq rfl) (K := 7) (N := 26) rfl rfl (by decide) (by decide) (by decide) (by decide)
  obtain ⟨hv104, N104q, K104⟩ := hQ104
  subst hv104
  have Cs104 : CHr Z consts_1 vm0 h101 vm0 h104 := CHr.keep K104 sf0 Ch101.1
  have Ch104 := Ch101.trans Cs104
  have Xo104 := Xo101.keep K104 all0
  have KK104 := KK101.trans K104 all0
  have N104 := l104 _ N102 N104q
  refine own_to ?_ st104
  refine own_to (V := T104.setTop (mkF m 157 #[sI p0, sI p1, sI p2, sI p3, sI p4, sI p5, sR ob, sR oa, sI va, sI vb, sI 0, sI 2, sR ow, sR oo101, sI 2] [(.int 2), (.int 0), (.ref ob), (.int 1), (.ref oo101)])) ?_ fun t k => (by
    refine XS.ifNo X104.here hx rfl (hb hby at_145) rfl ((if0 _ _).trans (feq ((by decide) : ¬ ((1 : Int32) = (0 : Int32)))).1) ?_
    refine XS.aload X104.here hx rfl (hb hby at_148) rfl rfl ?_
    refine XS.iconst X104.here hx rfl (hb hby at_150) ?_
    refine XS.aload X104.here hx rfl (hb hby at_151) rfl rfl ?_
    refine XS.iload X104.here hx rfl (hb hby at_153) rfl ?_
    refine XS.iload X104.here hx rfl (hb hby at_155) rfl ?_
    exact k)
  have F107 := (g101_0.keep K104 List.not_mem_nil List.not_mem_nil)
  have F108 := (F105.keep K104 List.not_mem_nil)
  obtain ⟨_, T106, h106, L106, Lc106, X106, e106, hQ106, l106, st106⟩ := own_cS (own_rmsm201 l Z a0 hw hst [] oo101 ou101 ob kb c0 c1 c2 c3 h104 n0 Xo104 l0 l1 l2 l3 F107 F108) X104 hx hZ hown e104 (own_i hw 113 rfl) (own_i hw 114 rfl) (own_i hw 115 rfl) (own_i hw 116 rfl) (by decide) (g := (mkF m 157 #[sI p0, sI p1, sI p2, sI p3, sI p4, sI p5, sR ob, sR oa, sI va, sI vb, sI 0, sI 2, sR ow, sR oo101, sI 2] [(.int 2), (.int 0), (.ref ob), (.int 1), (.ref oo101)])) rfl (by rw [hml]; rfl) (argsL := [(.ref oo101), (.int 1), (.ref ob), (.int 0), (.int 2)]) (rest := []) (lenOf own_pd13 rfl) rfl rfl (hb hby at_157) (W := 0) (Nat.le_of_eq rfl) (K := 7) (N := 26) rfl rfl (by decide) (by decide) (by decide) (by decide)
  obtain ⟨hv106, N106q, K106⟩ := hQ106
  subst hv106
  have Cs106 : CHr Z consts_1 vm0 h104 vm0 h106 := CHr.keep K106 sf0 Ch104.1
  have Ch106 := Ch104.trans Cs106
  have Xo106 := Xo104.keep K106 all0
  have KK106 := KK104.trans K106 all0
  have N106 := l106 _ N104 N106q
  refine own_to ?_ st106
  refine own_to (V := T106.setTop (mkF m 172 #[sI p0, sI p1, sI p2, sI p3, sI p4, sI p5, sR ob, sR oa, sI va, sI vb, sI 0, sI 2, sR ow, sR oo101, sI 2] [(.int 2), (.int 0), (.ref ob), (.int 2), (.ref oo101)])) ?_ fun t k => (by
    refine XS.ifNo X106.here hx rfl (hb hby at_160) rfl ((if0 _ _).trans (feq ((by decide) : ¬ ((1 : Int32) = (0 : Int32)))).1) ?_
    refine XS.aload X106.here hx rfl (hb hby at_163) rfl rfl ?_
    refine XS.iconst X106.here hx rfl (hb hby at_165) ?_
    refine XS.aload X106.here hx rfl (hb hby at_166) rfl rfl ?_
    refine XS.iload X106.here hx rfl (hb hby at_168) rfl ?_
    refine XS.iload X106.here hx rfl (hb hby at_170) rfl ?_
    exact k)
  obtain ⟨_, T109, h109, L109, Lc109, X109, e109, hQ109, l109, st109⟩ := own_cS (own_rmsm l Z a0 hw hst [] (.ref oo101) (2 : Int32) (.ref ob) (0 : Int32) (2 : Int32) h106 n0 Xo106 rfl rfl (by first | assumption | decide | omega | (simp; done) | rfl)) X106 hx hZ hown e106 (own_i hw 113 rfl) (own_i hw 114 rfl) (own_i hw 115 rfl) (own_i hw 116 rfl) (by decide) (g := (mkF m 172 #[sI p0, sI p1, sI p2, sI p3, sI p4, sI p5, sR ob, sR oa, sI va, sI vb, sI 0, sI 2, sR ow, sR oo101, sI 2] [(.int 2), (.int 0), (.ref ob), (.int 2), (.ref oo101)])) rfl (by rw [hml]; rfl) (argsL := [(.ref oo101), (.int 2), (.ref ob), (.int 0), (.int 2)]) (rest := []) (lenOf own_pd13 rfl) rfl rfl (hb hby at_172) (W := 0) (Nat.le_of_eq rfl) (K := 7) (N := 26) rfl rfl (by decide) (by decide) (by decide) (by decide)
  obtain ⟨hv109, N109q, K109⟩ := hQ109
  subst hv109
  have Cs109 : CHr Z consts_1 vm0 h106 vm0 h109 := CHr.keep K109 sf0 Ch106.1
  have Ch109 := Ch106.trans Cs109
  have Xo109 := Xo106.keep K109 all0
  have KK109 := KK106.trans K109 all0
  have N109 := l109 _ N106 N109q
  refine own_to ?_ st109
  refine own_to (V := T109.setTop (mkF m 187 #[sI p0, sI p1, sI p2, sI p3, sI p4, sI p5, sR ob, sR oa, sI va, sI vb, sI 0, sI 2, sR ow, sR oo101, sI 2] [(.int 2), (.int 0), (.ref ob), (.int 3), (.ref oo101)])) ?_ fun t k => (by
    refine XS.ifNo X109.here hx rfl (hb hby at_175) rfl ((if0 _ _).trans (feq ((by decide) : ¬ ((1 : Int32) = (0 : Int32)))).1) ?_
    refine XS.aload X109.here hx rfl (hb hby at_178) rfl rfl ?_
    refine XS.iconst X109.here hx rfl (hb hby at_180) ?_
    refine XS.aload X109.here hx rfl (hb hby at_181) rfl rfl ?_
    refine XS.iload X109.here hx rfl (hb hby at_183) rfl ?_
    refine XS.iload X109.here hx rfl (hb hby at_185) rfl ?_
    exact k)
  obtain ⟨_, T110, h110, L110, Lc110, X110, e110, hQ110, l110, st110⟩ := own_cS (own_rmsm l Z a0 hw hst [] (.ref oo101) (3 : Int32) (.ref ob) (0 : Int32) (2 : Int32) h109 n0 Xo109 rfl rfl (by first | assumption | decide | omega | (simp; done) | rfl)) X109 hx hZ hown e109 (own_i hw 113 rfl) (own_i hw 114 rfl) (own_i hw 115 rfl) (own_i hw 116 rfl) (by decide) (g := (mkF m 187 #[sI p0, sI p1, sI p2, sI p3, sI p4, sI p5, sR ob, sR oa, sI va, sI vb, sI 0, sI 2, sR ow, sR oo101, sI 2] [(.int 2), (.int 0), (.ref ob), (.int 3), (.ref oo101)])) rfl (by rw [hml]; rfl) (argsL := [(.ref oo101), (.int 3), (.ref ob), (.int 0), (.int 2)]) (rest := []) (lenOf own_pd13 rfl) rfl rfl (hb hby at_187) (W := 0) (Nat.le_of_eq rfl) (K := 7) (N := 26) rfl rfl (by decide) (by decide) (by decide) (by decide)
  obtain ⟨hv110, N110q, K110⟩ := hQ110
  subst hv110
  have Cs110 : CHr Z consts_1 vm0 h109 vm0 h110 := CHr.keep K110 sf0 Ch109.1
  have Ch110 := Ch109.trans Cs110
  have Xo110 := Xo109.keep K110 all0
  have KK110 := KK109.trans K110 all0
  have N110 := l110 _ N109 N110q
  refine own_to ?_ st110
  refine own_to (V := T110.setTop (mkF m 198 #[sI p0, sI p1, sI p2, sI p3, sI p4, sI p5, sR ob, sR oa, sI va, sI vb, sI 0, sI 2, sR ow, sR oo101, sI 2] [(.int 1)])) ?_ fun t k => (by
    refine XS.ifNo X110.here hx rfl (hb hby at_190) rfl ((if0 _ _).trans (feq ((by decide) : ¬ ((1 : Int32) = (0 : Int32)))).1) ?_
    refine XS.iconst X110.here hx rfl (hb hby at_193) ?_
    refine XS.goto X110.here hx rfl (pc0 := 194) (pc' := 198) rfl (hb hby at_194) (by decide) (by decide) ?_
    exact k)
  exact own_retNH X110 hx hS0 (own_hk e110 (Nat.le_trans (Nat.le_trans (Nat.le_trans (Nat.le_trans (Nat.le_trans hk0 K101.1) K104.1) K106.1) K109.1) K110.1)) (by rw [e110, hh]; exact Ch110.trans (CHv.at X110 hZ (own_hEL hw) Ch110.1)) (t := .boolean) (w := (1 : Int32)) hret (by decide) rfl hlk (hb hby at_198) (by rw [e110]; exact (⟨rfl, N110, KK110⟩)) (by decide) (by decide)
theorem own_sglaw03 (l : Launch) (Z : State) (a0 : Array Value) (hw : ∀ d ∈ tables_1, d.before a0 Z = true) (hst : own_St Z) (p0 p1 p2 p3 p4 p5 : Int32) (h0 : Heap) (n0 : Nat) (ob : Addr) (kb : ClassId) (oa : Addr) (ua : Addr) (va : Int32) (vb : Int32) (c0 : Int32) (c1 : Int32) (c2 : Int32) (c3 : Int32) (ow : Addr)
    {p : Program} {e : Env} {s : State} {m : MethodId} {args : Array Value} {below : List Frame} {meth : Method} {c : Code} (hx : p.tables.exec = Jvm.exec) (hby : c.code = code) (hret : meth.sig.returnType = ret) (hlk : meth.locks = false) (hml : c.maxLocals = 15) (hnm : meth.name = "law") {vm0 : Vm} {k0 : Nat} (hS0 : s.Since vm0 k0) (hh : s.heap = h0) (hZ : Z.Warmed39 (s.setVm vm0).vm) (hown : (s.setVm vm0).vm.findClass "com/example/capstrike/capstrike/TermTextToStringPinLaw" = some m.cls)
    {T0 : State} {locs : List Loc} {h : Heap} (X0 : Stand p l e room_1 (s.setVm vm0) m args below meth c T0 locs 5 20) (e0 : T0.heap = h) (hk0 : k0 ≤ h.size) (Ch0 : CHr Z consts_1 s.vm h0 vm0 h) (N0 : Fr n0 locs) (Xo0 : Old Z n0 h) (KK0 : Keep h0 h []) (l0 : ¬ c0 < 0 ∧ ¬ (255 : Int32) < c0) (l1 : ¬ c1 < 0 ∧ ¬ (255 : Int32) < c1) (l2 : ¬ c2 < 0 ∧ ¬ (255 : Int32) < c2) (l3 : ¬ c3 < 0 ∧ ¬ (255 : Int32) < c3) (hS : own_Str Z h oa ua ([c0, c1, c2, c3] : List Int32)) (hA : Arv Z h ob kb .char (4 : Int32) [(.int c0), (.int c1), (.int c2), (.int c3)] (.int (0 : Int32))) (hE : Exa Z h ow nm1) (f1 : Fld Z h ow nm1 "text" nm2 (.ref oa)) (f2 : Fld Z h ow nm1 "start" "I" (.int 0)) (f3 : Fld Z h ow nm1 "end" "I" (.int 3)) :
    own_Go p e below (own_PostH Z s (own_Qlaw Z p0 p1 p2 p3 p4 p5 h0 n0) room_1.cells room_1.slots) (T0.setTop (mkF m 107 #[sI p0, sI p1, sI p2, sI p3, sI p4, sI p5, sR ob, sR oa, sI va, sI vb, sI 0, sI 3, sR ow, .unset, .unset] [])) := by
  obtain ⟨⟨G1, O2, P5⟩, ⟨G3, O4, rG3⟩, -⟩ := id hst
  refine own_to (V := T0.setTop (mkF m 109 #[sI p0, sI p1, sI p2, sI p3, sI p4, sI p5, sR ob, sR oa, sI va, sI vb, sI 0, sI 3, sR ow, .unset, .unset] [(.ref ow)])) ?_ fun t k => (by
    refine XS.aload X0.here hx rfl (hb hby at_107) rfl rfl ?_
    exact k)
  obtain ⟨_, T101, h101, L101, Lc101, X101, e101, hQ101, l101, st101⟩ := own_cV (own_rmtos03 l Z a0 hw hst [] ow oa ua c0 c1 c2 c3 h n0 Xo0 l0 l1 l2 l3 hE f1 f2 f3 hS) X0 hx hZ hown e0 hE (own_i hw 56 rfl) (own_i hw 57 rfl) (notFace_of_selects (args := #[]) (mvT hZ (own_i hw 59 rfl))) (own_i hw 59 rfl) (own_i hw 58 rfl) (own_i hw 40 rfl) (own_i hw 60 rfl) (by decide) (g := (mkF m 109 #[sI p0, sI p1, sI p2, sI p3, sI p4, sI p5, sR ob, sR oa, sI va, sI vb, sI 0, sI 3, sR ow, .unset, .unset] [(.ref ow)])) rfl (by rw [hml]; rfl) (argsL := []) (rest := []) (lenOf own_pd12 rfl) rfl rfl (hb hby at_109) (W := 0) (Nat.le_of_eq rfl) (K := 7) (N := 27) rfl rfl (by decide) (by decide) (by decide) (by decide)
  obtain ⟨oo101, ou101, hv101, N101q, K101, g101_0⟩ := hQ101
  subst hv101
  have Cs101 : CHr Z consts_1 vm0 h vm0 h101 := CHr.keep K101 sf0 Ch0.1
  have Ch101 := Ch0.trans Cs101
  have Xo101 := Xo0.keep K101 all0
  have KK101 := KK0.trans K101 all0
  have N101 := l101 _ N0 N101q
  refine own_to ?_ st101
  refine own_to (V := T101.setTop (mkF m 123 #[sI p0, sI p1, sI p2, sI p3, sI p4, sI p5, sR ob, sR oa, sI va, sI vb, sI 0, sI 3, sR ow, sR oo101, sI 3] [(.ref oo101)])) ?_ fun t k => (by
    refine XS.astore X101.here hx rfl (hb hby at_112) rfl rfl (l' := #[sI p0, sI p1, sI p2, sI p3, sI p4, sI p5, sR ob, sR oa, sI va, sI vb, sI 0, sI 3, sR ow, sR oo101, .unset]) rfl ?_
    refine XS.iload X101.here hx rfl (hb hby at_114) rfl ?_
    refine XS.iload X101.here hx rfl (hb hby at_116) rfl ?_
    refine XS.isub X101.here hx rfl (hb hby at_118) rfl ?_
    refine XS.istore X101.here hx rfl (hb hby at_119) rfl (l' := #[sI p0, sI p1, sI p2, sI p3, sI p4, sI p5, sR ob, sR oa, sI va, sI vb, sI 0, sI 3, sR ow, sR oo101, sI 3]) rfl ?_
    refine XS.aload X101.here hx rfl (hb hby at_121) rfl rfl ?_
    exact k)
  obtain ⟨sE103, sd103, sN103, sk103, sv103, sV103, sC103, sK103, sc103, sb103, sl103⟩ := id g101_0
  obtain ⟨cq102, kq102, q102a, q102b, q102c⟩ := isOf hZ e101 g101_0.1
  obtain ⟨_, _, ⟨T102, L102, k102, n102⟩, -, X102, ⟨Lc102, hQ102, l102, y102, z102⟩, st102⟩ := X101.virtualBack hx (y := own_mn11) (z := own_mn11) hown (mvT hZ (own_i hw 112 rfl)) (mvT hZ (own_i hw 67 rfl)) (notFace_of_selects (args := #[]) (mvT hZ (own_i hw 69 rfl))) (mvT hZ (own_i hw 69 rfl)) (mvT hZ (own_i hw 68 rfl)) (by decide) (StrChars.Road.lenW (W := 0) hZ (own_hln hw) (kI := 4) (own_i hw 2 rfl) sE103 sV103 sC103 sK103 sc103 sb103 (O2.ext Xo101.2) P5 sl103 (by decide) (by decide)) q102a q102c (g := (mkF m 123 #[sI p0, sI p1, sI p2, sI p3, sI p4, sI p5, sR ob, sR oa, sI va, sI vb, sI 0, sI 3, sR ow, sR oo101, sI 3] [(.ref oo101)])) rfl (by rw [hml]; rfl) (Steps.refl _) (argsL := []) (rest := []) (lenOf own_pd2 rfl) rfl (by show 2 * 0 + _ ≤ _; exact Nat.le_of_eq rfl) (hb hby at_123) (fun _ _ => ⟨rfl, e101, (by decide : 7 + 0 ≤ _), (by decide : 27 + 0 ≤ _)⟩)
  dsimp only [own_R, Pt.U, Pt.locs, Pt.cells, Pt.slots] at X102 l102 y102 z102 st102 hQ102
  subst y102 z102
  obtain ⟨hv102, hL102, hh102⟩ := hQ102
  subst hL102
  have N102 : Fr n0 L102 := by rw [l102]; exact Fr.app N101 (Fr.nil n0)
  subst hv102
  refine own_to ?_ (fun t k => st102.trans k)
  refine own_to (V := T102.setTop (mkF m 142 #[sI p0, sI p1, sI p2, sI p3, sI p4, sI p5, sR ob, sR oa, sI va, sI vb, sI 0, sI 3, sR ow, sR oo101, sI 3] [(.int 3), (.int 0), (.ref ob), (.int 0), (.ref oo101)])) ?_ fun t k => (by
    refine XS.iload X102.here hx rfl (hb hby at_126) rfl ?_
    refine XS.icmpYes X102.here hx rfl (pc0 := 128) (pc' := 133) rfl (hb hby at_128) rfl (teq ((by decide) : (3 : Int32) = (3 : Int32))).1 (by decide) (by decide) ?_
    refine XS.aload X102.here hx rfl (hb hby at_133) rfl rfl ?_
    refine XS.iconst X102.here hx rfl (hb hby at_135) ?_
    refine XS.aload X102.here hx rfl (hb hby at_136) rfl rfl ?_
    refine XS.iload X102.here hx rfl (hb hby at_138) rfl ?_
    refine XS.iload X102.here hx rfl (hb hby at_140) rfl ?_
    exact k)
  have F105 := (hA.keep K101 List.not_mem_nil)
  obtain ⟨_, T104, h104, L104, Lc104, X104, e104, hQ104, l104, st104⟩ := own_cS (own_rmsm300 l Z a0 hw hst [] oo101 ou101 ob kb c0 c1 c2 c3 h101 n0 Xo101 l0 l1 l2 l3 g101_0 F105) X102 hx hZ hown hh102 (own_i hw 113 rfl) (own_i hw 114 rfl) (own_i hw 115 rfl) (own_i hw 116 rfl) (by decide) (g := (mkF m 142 #[sI p0, sI p1, sI p2, sI p3, sI p4, sI p5, sR ob, sR oa, sI va, sI vb, sI 0, sI 3, sR ow, sR oo101, sI 3] [(.int 3), (.int 0), (.ref ob), (.int 0), (.ref oo101)])) rfl (by rw [hml]; rfl) (argsL := [(.ref oo101), (.int 0), (.ref ob), (.int 0), (.int 3)]) (rest := []) (lenOf own_pd13 rfl) rfl rfl (hb hby at_142) (W := 0) (Nat.le_of_eq rfl) (K := 7) (N := 27) rfl rfl (by decide) (by decide) (by decide) (by decide)
  obtain ⟨hv104, N104q, K104⟩ := hQ104
  subst hv104
  have Cs104 : CHr Z consts_1 vm0 h101 vm0 h104 := CHr.keep K104 sf0 Ch101.1
  have Ch104 := Ch101.trans Cs104
  have Xo104 := Xo101.keep K104 all0
  have KK104 := KK101.trans K104 all0
  have N104 := l104 _ N102 N104q
  refine own_to ?_ st104
  refine own_to (V := T104.setTop (mkF m 157 #[sI p0, sI p1, sI p2, sI p3, sI p4, sI p5, sR ob, sR oa, sI va, sI vb, sI 0, sI 3, sR ow, sR oo101, sI 3] [(.int 3), (.int 0), (.ref ob), (.int 1), (.ref oo101)])) ?_ fun t k => (by
    refine XS.ifNo X104.here hx rfl (hb hby at_145) rfl ((if0 _ _).trans (feq ((by decide) : ¬ ((1 : Int32) = (0 : Int32)))).1) ?_
    refine XS.aload X104.here hx rfl (hb hby at_148) rfl rfl ?_
    refine XS.iconst X104.here hx rfl (hb hby at_150) ?_
    refine XS.aload X104.here hx rfl (hb hby at_151) rfl rfl ?_
    refine XS.iload X104.here hx rfl (hb hby at_153) rfl ?_
    refine XS.iload X104.here hx rfl (hb hby at_155) rfl ?_
    exact k)
  have F107 := (g101_0.keep K104 List.not_mem_nil List.not_mem_nil)
  have F108 := (F105.keep K104 List.not_mem_nil)
  obtain ⟨_, T106, h106, L106, Lc106, X106, e106, hQ106, l106, st106⟩ := own_cS (own_rmsm301 l Z a0 hw hst [] oo101 ou101 ob kb c0 c1 c2 c3 h104 n0 Xo104 l0 l1 l2 l3 F107 F108) X104 hx hZ hown e104 (own_i hw 113 rfl) (own_i hw 114 rfl) (own_i hw 115 rfl) (own_i hw 116 rfl) (by decide) (g := (mkF m 157 #[sI p0, sI p1, sI p2, sI p3, sI p4, sI p5, sR ob, sR oa, sI va, sI vb, sI 0, sI 3, sR ow, sR oo101, sI 3] [(.int 3), (.int 0), (.ref ob), (.int 1), (.ref oo101)])) rfl (by rw [hml]; rfl) (argsL := [(.ref oo101), (.int 1), (.ref ob), (.int 0), (.int 3)]) (rest := []) (lenOf own_pd13 rfl) rfl rfl (hb hby at_157) (W := 0) (Nat.le_of_eq rfl) (K := 7) (N := 27) rfl rfl (by decide) (by decide) (by decide) (by decide)
  obtain ⟨hv106, N106q, K106⟩ := hQ106
  subst hv106
  have Cs106 : CHr Z consts_1 vm0 h104 vm0 h106 := CHr.keep K106 sf0 Ch104.1
  have Ch106 := Ch104.trans Cs106
  have Xo106 := Xo104.keep K106 all0
  have KK106 := KK104.trans K106 all0
  have N106 := l106 _ N104 N106q
  refine own_to ?_ st106
  refine own_to (V := T106.setTop (mkF m 172 #[sI p0, sI p1, sI p2, sI p3, sI p4, sI p5, sR ob, sR oa, sI va, sI vb, sI 0, sI 3, sR ow, sR oo101, sI 3] [(.int 3), (.int 0), (.ref ob), (.int 2), (.ref oo101)])) ?_ fun t k => (by
    refine XS.ifNo X106.here hx rfl (hb hby at_160) rfl ((if0 _ _).trans (feq ((by decide) : ¬ ((1 : Int32) = (0 : Int32)))).1) ?_
    refine XS.aload X106.here hx rfl (hb hby at_163) rfl rfl ?_
    refine XS.iconst X106.here hx rfl (hb hby at_165) ?_
    refine XS.aload X106.here hx rfl (hb hby at_166) rfl rfl ?_
    refine XS.iload X106.here hx rfl (hb hby at_168) rfl ?_
    refine XS.iload X106.here hx rfl (hb hby at_170) rfl ?_
    exact k)
  have F110 := (F107.keep K106 List.not_mem_nil List.not_mem_nil)
  have F111 := (F108.keep K106 List.not_mem_nil)
  obtain ⟨_, T109, h109, L109, Lc109, X109, e109, hQ109, l109, st109⟩ := own_cS (own_rmsm302 l Z a0 hw hst [] oo101 ou101 ob kb c0 c1 c2 c3 h106 n0 Xo106 l0 l1 l2 l3 F110 F111) X106 hx hZ hown e106 (own_i hw 113 rfl) (own_i hw 114 rfl) (own_i hw 115 rfl) (own_i hw 116 rfl) (by decide) (g := (mkF m 172 #[sI p0, sI p1, sI p2, sI p3, sI p4, sI p5, sR ob, sR oa, sI va, sI vb, sI 0, sI 3, sR ow, sR oo101, sI 3] [(.int 3), (.int 0), (.ref ob), (.int 2), (.ref oo101)])) rfl (by rw [hml]; rfl) (argsL := [(.ref oo101), (.int 2), (.ref ob), (.int 0), (.int 3)]) (rest := []) (lenOf own_pd13 rfl) rfl rfl (hb hby at_172) (W := 0) (Nat.le_of_eq rfl) (K := 7) (N := 27) rfl rfl (by decide) (by decide) (by decide) (by decide)
  obtain ⟨hv109, N109q, K109⟩ := hQ109
  subst hv109
  have Cs109 : CHr Z consts_1 vm0 h106 vm0 h109 := CHr.keep K109 sf0 Ch106.1
  have Ch109 := Ch106.trans Cs109
  have Xo109 := Xo106.keep K109 all0
  have KK109 := KK106.trans K109 all0
  have N109 := l109 _ N106 N109q
  refine own_to ?_ st109
  refine own_to (V := T109.setTop (mkF m 187 #[sI p0, sI p1, sI p2, sI p3, sI p4, sI p5, sR ob, sR oa, sI va, sI vb, sI 0, sI 3, sR ow, sR oo101, sI 3] [(.int 3), (.int 0), (.ref ob), (.int 3), (.ref oo101)])) ?_ fun t k => (by
    refine XS.ifNo X109.here hx rfl (hb hby at_175) rfl ((if0 _ _).trans (feq ((by decide) : ¬ ((1 : Int32) = (0 : Int32)))).1) ?_
    refine XS.aload X109.here hx rfl (hb hby at_178) rfl rfl ?_
    refine XS.iconst X109.here hx rfl (hb hby at_180) ?_
    refine XS.aload X109.here hx rfl (hb hby at_181) rfl rfl ?_
    refine XS.iload X109.here hx rfl (hb hby at_183) rfl ?_
    refine XS.iload X109.here hx rfl (hb hby at_185) rfl ?_
    exact k)
  obtain ⟨_, T112, h112, L112, Lc112, X112, e112, hQ112, l112, st112⟩ := own_cS (own_rmsm l Z a0 hw hst [] (.ref oo101) (3 : Int32) (.ref ob) (0 : Int32) (3 : Int32) h109 n0 Xo109 rfl rfl (by first | assumption | decide | omega | (simp; done) | rfl)) X109 hx hZ hown e109 (own_i hw 113 rfl) (own_i hw 114 rfl) (own_i hw 115 rfl) (own_i hw 116 rfl) (by decide) (g := (mkF m 187 #[sI p0, sI p1, sI p2, sI p3, sI p4, sI p5, sR ob, sR oa, sI va, sI vb, sI 0, sI 3, sR ow, sR oo101, sI 3] [(.int 3), (.int 0), (.ref ob), (.int 3), (.ref oo101)])) rfl (by rw [hml]; rfl) (argsL := [(.ref oo101), (.int 3), (.ref ob), (.int 0), (.int 3)]) (rest := []) (lenOf own_pd13 rfl) rfl rfl (hb hby at_187) (W := 0) (Nat.le_of_eq rfl) (K := 7) (N := 27) rfl rfl (by decide) (by decide) (by decide) (by decide)
  obtain ⟨hv112, N112q, K112⟩ := hQ112
  subst hv112
  have Cs112 : CHr Z consts_1 vm0 h109 vm0 h112 := CHr.keep K112 sf0 Ch109.1
  have Ch112 := Ch109.trans Cs112
  have Xo112 := Xo109.keep K112 all0
  have KK112 := KK109.trans K112 all0
  have N112 := l112 _ N109 N112q
  refine own_to ?_ st112
  refine own_to (V := T112.setTop (mkF m 198 #[sI p0, sI p1, sI p2, sI p3, sI p4, sI p5, sR ob, sR oa, sI va, sI vb, sI 0, sI 3, sR ow, sR oo101, sI 3] [(.int 1)])) ?_ fun t k => (by
    refine XS.ifNo X112.here hx rfl (hb hby at_190) rfl ((if0 _ _).trans (feq ((by decide) : ¬ ((1 : Int32) = (0 : Int32)))).1) ?_
    refine XS.iconst X112.here hx rfl (hb hby at_193) ?_
    refine XS.goto X112.here hx rfl (pc0 := 194) (pc' := 198) rfl (hb hby at_194) (by decide) (by decide) ?_
    exact k)
  exact own_retNH X112 hx hS0 (own_hk e112 (Nat.le_trans (Nat.le_trans (Nat.le_trans (Nat.le_trans (Nat.le_trans hk0 K101.1) K104.1) K106.1) K109.1) K112.1)) (by rw [e112, hh]; exact Ch112.trans (CHv.at X112 hZ (own_hEL hw) Ch112.1)) (t := .boolean) (w := (1 : Int32)) hret (by decide) rfl hlk (hb hby at_198) (by rw [e112]; exact (⟨rfl, N112, KK112⟩)) (by decide) (by decide)
theorem own_sglaw04 (l : Launch) (Z : State) (a0 : Array Value) (hw : ∀ d ∈ tables_1, d.before a0 Z = true) (hst : own_St Z) (p0 p1 p2 p3 p4 p5 : Int32) (h0 : Heap) (n0 : Nat) (ob : Addr) (kb : ClassId) (oa : Addr) (ua : Addr) (va : Int32) (vb : Int32) (c0 : Int32) (c1 : Int32) (c2 : Int32) (c3 : Int32) (ow : Addr)
    {p : Program} {e : Env} {s : State} {m : MethodId} {args : Array Value} {below : List Frame} {meth : Method} {c : Code} (hx : p.tables.exec = Jvm.exec) (hby : c.code = code) (hret : meth.sig.returnType = ret) (hlk : meth.locks = false) (hml : c.maxLocals = 15) (hnm : meth.name = "law") {vm0 : Vm} {k0 : Nat} (hS0 : s.Since vm0 k0) (hh : s.heap = h0) (hZ : Z.Warmed39 (s.setVm vm0).vm) (hown : (s.setVm vm0).vm.findClass "com/example/capstrike/capstrike/TermTextToStringPinLaw" = some m.cls)
    {T0 : State} {locs : List Loc} {h : Heap} (X0 : Stand p l e room_1 (s.setVm vm0) m args below meth c T0 locs 5 20) (e0 : T0.heap = h) (hk0 : k0 ≤ h.size) (Ch0 : CHr Z consts_1 s.vm h0 vm0 h) (N0 : Fr n0 locs) (Xo0 : Old Z n0 h) (KK0 : Keep h0 h []) (l0 : ¬ c0 < 0 ∧ ¬ (255 : Int32) < c0) (l1 : ¬ c1 < 0 ∧ ¬ (255 : Int32) < c1) (l2 : ¬ c2 < 0 ∧ ¬ (255 : Int32) < c2) (l3 : ¬ c3 < 0 ∧ ¬ (255 : Int32) < c3) (hS : own_Str Z h oa ua ([c0, c1, c2, c3] : List Int32)) (hA : Arv Z h ob kb .char (4 : Int32) [(.int c0), (.int c1), (.int c2), (.int c3)] (.int (0 : Int32))) (hE : Exa Z h ow nm1) (f1 : Fld Z h ow nm1 "text" nm2 (.ref oa)) (f2 : Fld Z h ow nm1 "start" "I" (.int 0)) (f3 : Fld Z h ow nm1 "end" "I" (.int 4)) :
    own_Go p e below (own_PostH Z s (own_Qlaw Z p0 p1 p2 p3 p4 p5 h0 n0) room_1.cells room_1.slots) (T0.setTop (mkF m 107 #[sI p0, sI p1, sI p2, sI p3, sI p4, sI p5, sR ob, sR oa, sI va, sI vb, sI 0, sI 4, sR ow, .unset, .unset] [])) := by
  obtain ⟨⟨G1, O2, P5⟩, ⟨G3, O4, rG3⟩, -⟩ := id hst
  refine own_to (V := T0.setTop (mkF m 109 #[sI p0, sI p1, sI p2, sI p3, sI p4, sI p5, sR ob, sR oa, sI va, sI vb, sI 0, sI 4, sR ow, .unset, .unset] [(.ref ow)])) ?_ fun t k => (by
    refine XS.aload X0.here hx rfl (hb hby at_107) rfl rfl ?_
    exact k)
  obtain ⟨_, T101, h101, L101, Lc101, X101, e101, hQ101, l101, st101⟩ := own_cV (own_rmtos04 l Z a0 hw hst [] ow oa ua c0 c1 c2 c3 h n0 Xo0 l0 l1 l2 l3 hE f1 f2 f3 hS) X0 hx hZ hown e0 hE (own_i hw 56 rfl) (own_i hw 57 rfl) (notFace_of_selects (args := #[]) (mvT hZ (own_i hw 59 rfl))) (own_i hw 59 rfl) (own_i hw 58 rfl) (own_i hw 40 rfl) (own_i hw 60 rfl) (by decide) (g := (mkF m 109 #[sI p0, sI p1, sI p2, sI p3, sI p4, sI p5, sR ob, sR oa, sI va, sI vb, sI 0, sI 4, sR ow, .unset, .unset] [(.ref ow)])) rfl (by rw [hml]; rfl) (argsL := []) (rest := []) (lenOf own_pd12 rfl) rfl rfl (hb hby at_109) (W := 0) (Nat.le_of_eq rfl) (K := 5) (N := 20) rfl rfl (by decide) (by decide) (by decide) (by decide)
  obtain ⟨oo101, ou101, hv101, N101q, K101, g101_0⟩ := hQ101
  subst hv101
  have Cs101 : CHr Z consts_1 vm0 h vm0 h101 := CHr.keep K101 sf0 Ch0.1
  have Ch101 := Ch0.trans Cs101
  have Xo101 := Xo0.keep K101 all0
  have KK101 := KK0.trans K101 all0
  have N101 := l101 _ N0 N101q
  refine own_to ?_ st101
  refine own_to (V := T101.setTop (mkF m 123 #[sI p0, sI p1, sI p2, sI p3, sI p4, sI p5, sR ob, sR oa, sI va, sI vb, sI 0, sI 4, sR ow, sR oo101, sI 4] [(.ref oo101)])) ?_ fun t k => (by
    refine XS.astore X101.here hx rfl (hb hby at_112) rfl rfl (l' := #[sI p0, sI p1, sI p2, sI p3, sI p4, sI p5, sR ob, sR oa, sI va, sI vb, sI 0, sI 4, sR ow, sR oo101, .unset]) rfl ?_
    refine XS.iload X101.here hx rfl (hb hby at_114) rfl ?_
    refine XS.iload X101.here hx rfl (hb hby at_116) rfl ?_
    refine XS.isub X101.here hx rfl (hb hby at_118) rfl ?_
    refine XS.istore X101.here hx rfl (hb hby at_119) rfl (l' := #[sI p0, sI p1, sI p2, sI p3, sI p4, sI p5, sR ob, sR oa, sI va, sI vb, sI 0, sI 4, sR ow, sR oo101, sI 4]) rfl ?_
    refine XS.aload X101.here hx rfl (hb hby at_121) rfl rfl ?_
    exact k)
  obtain ⟨sE103, sd103, sN103, sk103, sv103, sV103, sC103, sK103, sc103, sb103, sl103⟩ := id g101_0
  obtain ⟨cq102, kq102, q102a, q102b, q102c⟩ := isOf hZ e101 g101_0.1
  obtain ⟨_, _, ⟨T102, L102, k102, n102⟩, -, X102, ⟨Lc102, hQ102, l102, y102, z102⟩, st102⟩ := X101.virtualBack hx (y := own_mn11) (z := own_mn11) hown (mvT hZ (own_i hw 112 rfl)) (mvT hZ (own_i hw 67 rfl)) (notFace_of_selects (args := #[]) (mvT hZ (own_i hw 69 rfl))) (mvT hZ (own_i hw 69 rfl)) (mvT hZ (own_i hw 68 rfl)) (by decide) (StrChars.Road.lenW (W := 0) hZ (own_hln hw) (kI := 4) (own_i hw 2 rfl) sE103 sV103 sC103 sK103 sc103 sb103 (O2.ext Xo101.2) P5 sl103 (by decide) (by decide)) q102a q102c (g := (mkF m 123 #[sI p0, sI p1, sI p2, sI p3, sI p4, sI p5, sR ob, sR oa, sI va, sI vb, sI 0, sI 4, sR ow, sR oo101, sI 4] [(.ref oo101)])) rfl (by rw [hml]; rfl) (Steps.refl _) (argsL := []) (rest := []) (lenOf own_pd2 rfl) rfl (by show 2 * 0 + _ ≤ _; exact Nat.le_of_eq rfl) (hb hby at_123) (fun _ _ => ⟨rfl, e101, (by decide : 5 + 0 ≤ _), (by decide : 20 + 0 ≤ _)⟩)
  dsimp only [own_R, Pt.U, Pt.locs, Pt.cells, Pt.slots] at X102 l102 y102 z102 st102 hQ102
  subst y102 z102
  obtain ⟨hv102, hL102, hh102⟩ := hQ102
  subst hL102
  have N102 : Fr n0 L102 := by rw [l102]; exact Fr.app N101 (Fr.nil n0)
  subst hv102
  refine own_to ?_ (fun t k => st102.trans k)
  refine own_to (V := T102.setTop (mkF m 142 #[sI p0, sI p1, sI p2, sI p3, sI p4, sI p5, sR ob, sR oa, sI va, sI vb, sI 0, sI 4, sR ow, sR oo101, sI 4] [(.int 4), (.int 0), (.ref ob), (.int 0), (.ref oo101)])) ?_ fun t k => (by
    refine XS.iload X102.here hx rfl (hb hby at_126) rfl ?_
    refine XS.icmpYes X102.here hx rfl (pc0 := 128) (pc' := 133) rfl (hb hby at_128) rfl (teq ((by decide) : (4 : Int32) = (4 : Int32))).1 (by decide) (by decide) ?_
    refine XS.aload X102.here hx rfl (hb hby at_133) rfl rfl ?_
    refine XS.iconst X102.here hx rfl (hb hby at_135) ?_
    refine XS.aload X102.here hx rfl (hb hby at_136) rfl rfl ?_
    refine XS.iload X102.here hx rfl (hb hby at_138) rfl ?_
    refine XS.iload X102.here hx rfl (hb hby at_140) rfl ?_
    exact k)
  have F105 := (hA.keep K101 List.not_mem_nil)
  obtain ⟨_, T104, h104, L104, Lc104, X104, e104, hQ104, l104, st104⟩ := own_cS (own_rmsm400 l Z a0 hw hst [] oo101 ou101 ob kb c0 c1 c2 c3 h101 n0 Xo101 l0 l1 l2 l3 g101_0 F105) X102 hx hZ hown hh102 (own_i hw 113 rfl) (own_i hw 114 rfl) (own_i hw 115 rfl) (own_i hw 116 rfl) (by decide) (g := (mkF m 142 #[sI p0, sI p1, sI p2, sI p3, sI p4, sI p5, sR ob, sR oa, sI va, sI vb, sI 0, sI 4, sR ow, sR oo101, sI 4] [(.int 4), (.int 0), (.ref ob), (.int 0), (.ref oo101)])) rfl (by rw [hml]; rfl) (argsL := [(.ref oo101), (.int 0), (.ref ob), (.int 0), (.int 4)]) (rest := []) (lenOf own_pd13 rfl) rfl rfl (hb hby at_142) (W := 0) (Nat.le_of_eq rfl) (K := 5) (N := 20) rfl rfl (by decide) (by decide) (by decide) (by decide)
  obtain ⟨hv104, N104q, K104⟩ := hQ104
  subst hv104
  have Cs104 : CHr Z consts_1 vm0 h101 vm0 h104 := CHr.keep K104 sf0 Ch101.1
  have Ch104 := Ch101.trans Cs104
  have Xo104 := Xo101.keep K104 all0
  have KK104 := KK101.trans K104 all0
  have N104 := l104 _ N102 N104q
  refine own_to ?_ st104
  refine own_to (V := T104.setTop (mkF m 157 #[sI p0, sI p1, sI p2, sI p3, sI p4, sI p5, sR ob, sR oa, sI va, sI vb, sI 0, sI 4, sR ow, sR oo101, sI 4] [(.int 4), (.int 0), (.ref ob), (.int 1), (.ref oo101)])) ?_ fun t k => (by
    refine XS.ifNo X104.here hx rfl (hb hby at_145) rfl ((if0 _ _).trans (feq ((by decide) : ¬ ((1 : Int32) = (0 : Int32)))).1) ?_
    refine XS.aload X104.here hx rfl (hb hby at_148) rfl rfl ?_
    refine XS.iconst X104.here hx rfl (hb hby at_150) ?_
    refine XS.aload X104.here hx rfl (hb hby at_151) rfl rfl ?_
    refine XS.iload X104.here hx rfl (hb hby at_153) rfl ?_
    refine XS.iload X104.here hx rfl (hb hby at_155) rfl ?_
    exact k)
  have F107 := (g101_0.keep K104 List.not_mem_nil List.not_mem_nil)
  have F108 := (F105.keep K104 List.not_mem_nil)
  obtain ⟨_, T106, h106, L106, Lc106, X106, e106, hQ106, l106, st106⟩ := own_cS (own_rmsm401 l Z a0 hw hst [] oo101 ou101 ob kb c0 c1 c2 c3 h104 n0 Xo104 l0 l1 l2 l3 F107 F108) X104 hx hZ hown e104 (own_i hw 113 rfl) (own_i hw 114 rfl) (own_i hw 115 rfl) (own_i hw 116 rfl) (by decide) (g := (mkF m 157 #[sI p0, sI p1, sI p2, sI p3, sI p4, sI p5, sR ob, sR oa, sI va, sI vb, sI 0, sI 4, sR ow, sR oo101, sI 4] [(.int 4), (.int 0), (.ref ob), (.int 1), (.ref oo101)])) rfl (by rw [hml]; rfl) (argsL := [(.ref oo101), (.int 1), (.ref ob), (.int 0), (.int 4)]) (rest := []) (lenOf own_pd13 rfl) rfl rfl (hb hby at_157) (W := 0) (Nat.le_of_eq rfl) (K := 5) (N := 20) rfl rfl (by decide) (by decide) (by decide) (by decide)
  obtain ⟨hv106, N106q, K106⟩ := hQ106
  subst hv106
  have Cs106 : CHr Z consts_1 vm0 h104 vm0 h106 := CHr.keep K106 sf0 Ch104.1
  have Ch106 := Ch104.trans Cs106
  have Xo106 := Xo104.keep K106 all0
  have KK106 := KK104.trans K106 all0
  have N106 := l106 _ N104 N106q
  refine own_to ?_ st106
  refine own_to (V := T106.setTop (mkF m 172 #[sI p0, sI p1, sI p2, sI p3, sI p4, sI p5, sR ob, sR oa, sI va, sI vb, sI 0, sI 4, sR ow, sR oo101, sI 4] [(.int 4), (.int 0), (.ref ob), (.int 2), (.ref oo101)])) ?_ fun t k => (by
    refine XS.ifNo X106.here hx rfl (hb hby at_160) rfl ((if0 _ _).trans (feq ((by decide) : ¬ ((1 : Int32) = (0 : Int32)))).1) ?_
    refine XS.aload X106.here hx rfl (hb hby at_163) rfl rfl ?_
    refine XS.iconst X106.here hx rfl (hb hby at_165) ?_
    refine XS.aload X106.here hx rfl (hb hby at_166) rfl rfl ?_
    refine XS.iload X106.here hx rfl (hb hby at_168) rfl ?_
    refine XS.iload X106.here hx rfl (hb hby at_170) rfl ?_
    exact k)
  have F110 := (F107.keep K106 List.not_mem_nil List.not_mem_nil)
  have F111 := (F108.keep K106 List.not_mem_nil)
  obtain ⟨_, T109, h109, L109, Lc109, X109, e109, hQ109, l109, st109⟩ := own_cS (own_rmsm402 l Z a0 hw hst [] oo101 ou101 ob kb c0 c1 c2 c3 h106 n0 Xo106 l0 l1 l2 l3 F110 F111) X106 hx hZ hown e106 (own_i hw 113 rfl) (own_i hw 114 rfl) (own_i hw 115 rfl) (own_i hw 116 rfl) (by decide) (g := (mkF m 172 #[sI p0, sI p1, sI p2, sI p3, sI p4, sI p5, sR ob, sR oa, sI va, sI vb, sI 0, sI 4, sR ow, sR oo101, sI 4] [(.int 4), (.int 0), (.ref ob), (.int 2), (.ref oo101)])) rfl (by rw [hml]; rfl) (argsL := [(.ref oo101), (.int 2), (.ref ob), (.int 0), (.int 4)]) (rest := []) (lenOf own_pd13 rfl) rfl rfl (hb hby at_172) (W := 0) (Nat.le_of_eq rfl) (K := 5) (N := 20) rfl rfl (by decide) (by decide) (by decide) (by decide)
  obtain ⟨hv109, N109q, K109⟩ := hQ109
  subst hv109
  have Cs109 : CHr Z consts_1 vm0 h106 vm0 h109 := CHr.keep K109 sf0 Ch106.1
  have Ch109 := Ch106.trans Cs109
  have Xo109 := Xo106.keep K109 all0
  have KK109 := KK106.trans K109 all0
  have N109 := l109 _ N106 N109q
  refine own_to ?_ st109
  refine own_to (V := T109.setTop (mkF m 187 #[sI p0, sI p1, sI p2, sI p3, sI p4, sI p5, sR ob, sR oa, sI va, sI vb, sI 0, sI 4, sR ow, sR oo101, sI 4] [(.int 4), (.int 0), (.ref ob), (.int 3), (.ref oo101)])) ?_ fun t k => (by
    refine XS.ifNo X109.here hx rfl (hb hby at_175) rfl ((if0 _ _).trans (feq ((by decide) : ¬ ((1 : Int32) = (0 : Int32)))).1) ?_
    refine XS.aload X109.here hx rfl (hb hby at_178) rfl rfl ?_
    refine XS.iconst X109.here hx rfl (hb hby at_180) ?_
    refine XS.aload X109.here hx rfl (hb hby at_181) rfl rfl ?_
    refine XS.iload X109.here hx rfl (hb hby at_183) rfl ?_
    refine XS.iload X109.here hx rfl (hb hby at_185) rfl ?_
    exact k)
  have F113 := (F110.keep K109 List.not_mem_nil List.not_mem_nil)
  have F114 := (F111.keep K109 List.not_mem_nil)
  obtain ⟨_, T112, h112, L112, Lc112, X112, e112, hQ112, l112, st112⟩ := own_cS (own_rmsm403 l Z a0 hw hst [] oo101 ou101 ob kb c0 c1 c2 c3 h109 n0 Xo109 l0 l1 l2 l3 F113 F114) X109 hx hZ hown e109 (own_i hw 113 rfl) (own_i hw 114 rfl) (own_i hw 115 rfl) (own_i hw 116 rfl) (by decide) (g := (mkF m 187 #[sI p0, sI p1, sI p2, sI p3, sI p4, sI p5, sR ob, sR oa, sI va, sI vb, sI 0, sI 4, sR ow, sR oo101, sI 4] [(.int 4), (.int 0), (.ref ob), (.int 3), (.ref oo101)])) rfl (by rw [hml]; rfl) (argsL := [(.ref oo101), (.int 3), (.ref ob), (.int 0), (.int 4)]) (rest := []) (lenOf own_pd13 rfl) rfl rfl (hb hby at_187) (W := 0) (Nat.le_of_eq rfl) (K := 5) (N := 20) rfl rfl (by decide) (by decide) (by decide) (by decide)
  obtain ⟨hv112, N112q, K112⟩ := hQ112
  subst hv112
  have Cs112 : CHr Z consts_1 vm0 h109 vm0 h112 := CHr.keep K112 sf0 Ch109.1
  have Ch112 := Ch109.trans Cs112
  have Xo112 := Xo109.keep K112 all0
  have KK112 := KK109.trans K112 all0
  have N112 := l112 _ N109 N112q
  refine own_to ?_ st112
  refine own_to (V := T112.setTop (mkF m 198 #[sI p0, sI p1, sI p2, sI p3, sI p4, sI p5, sR ob, sR oa, sI va, sI vb, sI 0, sI 4, sR ow, sR oo101, sI 4] [(.int 1)])) ?_ fun t k => (by
    refine XS.ifNo X112.here hx rfl (hb hby at_190) rfl ((if0 _ _).trans (feq ((by decide) : ¬ ((1 : Int32) = (0 : Int32)))).1) ?_
    refine XS.iconst X112.here hx rfl (hb hby at_193) ?_
    refine XS.goto X112.here hx rfl (pc0 := 194) (pc' := 198) rfl (hb hby at_194) (by decide) (by decide) ?_
    exact k)
  exact own_retNH X112 hx hS0 (own_hk e112 (Nat.le_trans (Nat.le_trans (Nat.le_trans (Nat.le_trans (Nat.le_trans hk0 K101.1) K104.1) K106.1) K109.1) K112.1)) (by rw [e112, hh]; exact Ch112.trans (CHv.at X112 hZ (own_hEL hw) Ch112.1)) (t := .boolean) (w := (1 : Int32)) hret (by decide) rfl hlk (hb hby at_198) (by rw [e112]; exact (⟨rfl, N112, KK112⟩)) (by decide) (by decide)
theorem own_sglaw11 (l : Launch) (Z : State) (a0 : Array Value) (hw : ∀ d ∈ tables_1, d.before a0 Z = true) (hst : own_St Z) (p0 p1 p2 p3 p4 p5 : Int32) (h0 : Heap) (n0 : Nat) (ob : Addr) (kb : ClassId) (oa : Addr) (ua : Addr) (va : Int32) (vb : Int32) (c0 : Int32) (c1 : Int32) (c2 : Int32) (c3 : Int32) (ow : Addr)
    {p : Program} {e : Env} {s : State} {m : MethodId} {args : Array Value} {below : List Frame} {meth : Method} {c : Code} (hx : p.tables.exec = Jvm.exec) (hby : c.code = code) (hret : meth.sig.returnType = ret) (hlk : meth.locks = false) (hml : c.maxLocals = 15) (hnm : meth.name = "law") {vm0 : Vm} {k0 : Nat} (hS0 : s.Since vm0 k0) (hh : s.heap = h0) (hZ : Z.Warmed39 (s.setVm vm0).vm) (hown : (s.setVm vm0).vm.findClass "com/example/capstrike/capstrike/TermTextToStringPinLaw" = some m.cls)
    {T0 : State} {locs : List Loc} {h : Heap} (X0 : Stand p l e room_1 (s.setVm vm0) m args below meth c T0 locs 5 20) (e0 : T0.heap = h) (hk0 : k0 ≤ h.size) (Ch0 : CHr Z consts_1 s.vm h0 vm0 h) (N0 : Fr n0 locs) (Xo0 : Old Z n0 h) (KK0 : Keep h0 h []) (l0 : ¬ c0 < 0 ∧ ¬ (255 : Int32) < c0) (l1 : ¬ c1 < 0 ∧ ¬ (255 : Int32) < c1) (l2 : ¬ c2 < 0 ∧ ¬ (255 : Int32) < c2) (l3 : ¬ c3 < 0 ∧ ¬ (255 : Int32) < c3) (hS : own_Str Z h oa ua ([c0, c1, c2, c3] : List Int32)) (hA : Arv Z h ob kb .char (4 : Int32) [(.int c0), (.int c1), (.int c2), (.int c3)] (.int (0 : Int32))) (hE : Exa Z h ow nm1) (f1 : Fld Z h ow nm1 "text" nm2 (.ref oa)) (f2 : Fld Z h ow nm1 "start" "I" (.int 1)) (f3 : Fld Z h ow nm1 "end" "I" (.int 1)) :
    own_Go p e below (own_PostH Z s (own_Qlaw Z p0 p1 p2 p3 p4 p5 h0 n0) room_1.cells room_1.slots) (T0.setTop (mkF m 107 #[sI p0, sI p1, sI p2, sI p3, sI p4, sI p5, sR ob, sR oa, sI va, sI vb, sI 1, sI 1, sR ow, .unset, .unset] [])) := by
  obtain ⟨⟨G1, O2, P5⟩, ⟨G3, O4, rG3⟩, -⟩ := id hst
  refine own_to (V := T0.setTop (mkF m 109 #[sI p0, sI p1, sI p2, sI p3, sI p4, sI p5, sR ob, sR oa, sI va, sI vb, sI 1, sI 1, sR ow, .unset, .unset] [(.ref ow)])) ?_ fun t k => (by
    refine XS.aload X0.here hx rfl (hb hby at_107) rfl rfl ?_
    exact k)
  obtain ⟨cq101, kq101, q101a, q101b, q101c⟩ := isOf hZ e0 hE
  obtain ⟨_, _, ⟨T101, L101, k101, n101⟩, -, X101', hS101', hg101, ⟨Lc101, hQ101, l101, y101, z101, hC101'⟩, st101⟩ := X0.virtualBackS hx (y := own_mn12) (z := own_mn12) hown (mvT hZ (own_i hw 56 rfl)) (mvT hZ (own_i hw 57 rfl)) (notFace_of_selects (args := #[]) (mvT hZ (own_i hw 59 rfl))) (mvT hZ (own_i hw 59 rfl)) (mvT hZ (own_i hw 58 rfl)) (by decide) (backOfSH (W := 0) (own_rmtos11 l Z a0 hw hst [] ow oa ua c0 c1 c2 c3 h n0 Xo0 l0 l1 l2 l3 hE f1 f2 f3 hS) hZ (own_i hw 60 rfl) (own_i hw 40 rfl) (by decide) (by decide) (own_hEL hw) Ch0.1) q101a q101c (g := (mkF m 109 #[sI p0, sI p1, sI p2, sI p3, sI p4, sI p5, sR ob, sR oa, sI va, sI vb, sI 1, sI 1, sR ow, .unset, .unset] [(.ref ow)])) rfl (by rw [hml]; rfl) (Steps.refl _) (argsL := []) (rest := []) (lenOf own_pd12 rfl) rfl (by show 2 * 0 + _ ≤ _; exact Nat.le_of_eq rfl) (hb hby at_109) (fun _ _ => ⟨rfl, e0, (by decide : 5 + 2 ≤ _), (by decide : 20 + 4 ≤ _)⟩)
  dsimp only [own_R, Pt.U, Pt.locs, Pt.cells, Pt.slots] at X101' hS101' hg101 l101 y101 z101 st101 hQ101 hC101'
  subst y101 z101
  obtain ⟨X101, hS101, hZ101, hown101⟩ := rebS hS0 (own_hk e0 hk0) X101' hS101' hg101 hZ hown
  obtain ⟨oo101, ou101, hv101, N101q, K101, g101_0⟩ := hQ101
  subst hv101
  obtain ⟨h101, e101⟩ : ∃ z, T101.heap = z := ⟨_, rfl⟩
  rw [e101] at K101 g101_0 hC101'
  have Cs101 : CHr Z consts_1 vm0 h T101.vm h101 := hC101'
  have Ch101 := Ch0.trans Cs101
  have Xo101 := Xo0.keep K101 all0
  have KK101 := KK0.trans K101 all0
  have hk101 : T101.heap.size ≤ h101.size := by rw [e101]; exact Nat.le_refl _
  have N101 : Fr n0 L101 := by rw [l101]; exact Fr.app N0 N101q
  refine own_to ?_ (fun t k => st101.trans k)
  refine own_to (V := T101.setTop (mkF m 123 #[sI p0, sI p1, sI p2, sI p3, sI p4, sI p5, sR ob, sR oa, sI va, sI vb, sI 1, sI 1, sR ow, sR oo101, sI 0] [(.ref oo101)])) ?_ fun t k => (by
    refine XS.astore X101.here hx rfl (hb hby at_112) rfl rfl (l' := #[sI p0, sI p1, sI p2, sI p3, sI p4, sI p5, sR ob, sR oa, sI va, sI vb, sI 1, sI 1, sR ow, sR oo101, .unset]) rfl ?_
    refine XS.iload X101.here hx rfl (hb hby at_114) rfl ?_
    refine XS.iload X101.here hx rfl (hb hby at_116) rfl ?_
    refine XS.isub X101.here hx rfl (hb hby at_118) rfl ?_
    refine XS.istore X101.here hx rfl (hb hby at_119) rfl (l' := #[sI p0, sI p1, sI p2, sI p3, sI p4, sI p5, sR ob, sR oa, sI va, sI vb, sI 1, sI 1, sR ow, sR oo101, sI 0]) rfl ?_
    refine XS.aload X101.here hx rfl (hb hby at_121) rfl rfl ?_
    exact k)
  obtain ⟨sE103, sd103, sN103, sk103, sv103, sV103, sC103, sK103, sc103, sb103, sl103⟩ := id g101_0
  obtain ⟨cq102, kq102, q102a, q102b, q102c⟩ := isOf hZ101 e101 g101_0.1
  obtain ⟨_, _, ⟨T102, L102, k102, n102⟩, -, X102, ⟨Lc102, hQ102, l102, y102, z102⟩, st102⟩ := X101.virtualBack hx (y := own_mn11) (z := own_mn11) hown101 (mvT hZ101 (own_i hw 112 rfl)) (mvT hZ101 (own_i hw 67 rfl)) (notFace_of_selects (args := #[]) (mvT hZ101 (own_i hw 69 rfl))) (mvT hZ101 (own_i hw 69 rfl)) (mvT hZ101 (own_i hw 68 rfl)) (by decide) (StrChars.Road.lenW (W := 0) hZ101 (own_hln hw) (kI := 4) (own_i hw 2 rfl) sE103 sV103 sC103 sK103 sc103 sb103 (O2.ext Xo101.2) P5 sl103 (by decide) (by decide)) q102a q102c (g := (mkF m 123 #[sI p0, sI p1, sI p2, sI p3, sI p4, sI p5, sR ob, sR oa, sI va, sI vb, sI 1, sI 1, sR ow, sR oo101, sI 0] [(.ref oo101)])) rfl (by rw [hml]; rfl) (Steps.refl _) (argsL := []) (rest := []) (lenOf own_pd2 rfl) rfl (by show 2 * 0 + _ ≤ _; exact Nat.le_of_eq rfl) (hb hby at_123) (fun _ _ => ⟨rfl, e101, (by decide : 7 + 0 ≤ _), (by decide : 24 + 0 ≤ _)⟩)
  dsimp only [own_R, Pt.U, Pt.locs, Pt.cells, Pt.slots] at X102 l102 y102 z102 st102 hQ102
  subst y102 z102
  obtain ⟨hv102, hL102, hh102⟩ := hQ102
  subst hL102
  have N102 : Fr n0 L102 := by rw [l102]; exact Fr.app N101 (Fr.nil n0)
  subst hv102
  refine own_to ?_ (fun t k => st102.trans k)
  refine own_to (V := T102.setTop (mkF m 142 #[sI p0, sI p1, sI p2, sI p3, sI p4, sI p5, sR ob, sR oa, sI va, sI vb, sI 1, sI 1, sR ow, sR oo101, sI 0] [(.int 0), (.int 1), (.ref ob), (.int 0), (.ref oo101)])) ?_ fun t k => (by
    refine XS.iload X102.here hx rfl (hb hby at_126) rfl ?_
    refine XS.icmpYes X102.here hx rfl (pc0 := 128) (pc' := 133) rfl (hb hby at_128) rfl (teq ((by decide) : (0 : Int32) = (0 : Int32))).1 (by decide) (by decide) ?_
    refine XS.aload X102.here hx rfl (hb hby at_133) rfl rfl ?_
    refine XS.iconst X102.here hx rfl (hb hby at_135) ?_
    refine XS.aload X102.here hx rfl (hb hby at_136) rfl rfl ?_
    refine XS.iload X102.here hx rfl (hb hby at_138) rfl ?_
    refine XS.iload X102.here hx rfl (hb hby at_140) rfl ?_
    exact k)
  obtain ⟨_, T104, h104, L104, Lc104, X104, e104, hQ104, l104, st104⟩ := own_cS (own_rmsm l Z a0 hw hst [] (.ref oo101) (0 : Int32) (.ref ob) (1 : Int32) (0 : Int32) h101 n0 Xo101 rfl rfl (by first | assumption | decide | omega | (simp; done) | rfl)) X102 hx hZ101 hown101 hh102 (own_i hw 113 rfl) (own_i hw 114 rfl) (own_i hw 115 rfl) (own_i hw 116 rfl) (by decide) (g := (mkF m 142 #[sI p0, sI p1, sI p2, sI p3, sI p4, sI p5, sR ob, sR oa, sI va, sI vb, sI 1, sI 1, sR ow, sR oo101, sI 0] [(.int 0), (.int 1), (.ref ob), (.int 0), (.ref oo101)])) rfl (by rw [hml]; rfl) (argsL := [(.ref oo101), (.int 0), (.ref ob), (.int 1), (.int 0)]) (rest := []) (lenOf own_pd13 rfl) rfl rfl (hb hby at_142) (W := 0) (Nat.le_of_eq rfl) (K := 7) (N := 24) rfl rfl (by decide) (by decide) (by decide) (by decide)
  obtain ⟨hv104, N104q, K104⟩ := hQ104
  subst hv104
  have Cs104 : CHr Z consts_1 T101.vm h101 T101.vm h104 := CHr.keep K104 sf0 Ch101.1
  have Ch104 := Ch101.trans Cs104
  have Xo104 := Xo101.keep K104 all0
  have KK104 := KK101.trans K104 all0
  have N104 := l104 _ N102 N104q
  refine own_to ?_ st104
  refine own_to (V := T104.setTop (mkF m 157 #[sI p0, sI p1, sI p2, sI p3, sI p4, sI p5, sR ob, sR oa, sI va, sI vb, sI 1, sI 1, sR ow, sR oo101, sI 0] [(.int 0), (.int 1), (.ref ob), (.int 1), (.ref oo101)])) ?_ fun t k => (by
    refine XS.ifNo X104.here hx rfl (hb hby at_145) rfl ((if0 _ _).trans (feq ((by decide) : ¬ ((1 : Int32) = (0 : Int32)))).1) ?_
    refine XS.aload X104.here hx rfl (hb hby at_148) rfl rfl ?_
    refine XS.iconst X104.here hx rfl (hb hby at_150) ?_
    refine XS.aload X104.here hx rfl (hb hby at_151) rfl rfl ?_
    refine XS.iload X104.here hx rfl (hb hby at_153) rfl ?_
    refine XS.iload X104.here hx rfl (hb hby at_155) rfl ?_
    exact k)
  obtain ⟨_, T105, h105, L105, Lc105, X105, e105, hQ105, l105, st105⟩ := own_cS (own_rmsm l Z a0 hw hst [] (.ref oo101) (1 : Int32) (.ref ob) (1 : Int32) (0 : Int32) h104 n0 Xo104 rfl rfl (by first | assumption | decide | omega | (simp; done) | rfl)) X104 hx hZ101 hown101 e104 (own_i hw 113 rfl) (own_i hw 114 rfl) (own_i hw 115 rfl) (own_i hw 116 rfl) (by decide) (g := (mkF m 157 #[sI p0, sI p1, sI p2, sI p3, sI p4, sI p5, sR ob, sR oa, sI va, sI vb, sI 1, sI 1, sR ow, sR oo101, sI 0] [(.int 0), (.int 1), (.ref ob), (.int 1), (.ref oo101)])) rfl (by rw [hml]; rfl) (argsL := [(.ref oo101), (.int 1), (.ref ob), (.int 1), (.int 0)]) (rest := []) (lenOf own_pd13 rfl) rfl rfl (hb hby at_157) (W := 0) (Nat.le_of_eq rfl) (K := 7) (N := 24) rfl rfl (by decide) (by decide) (by decide) (by decide)
  obtain ⟨hv105, N105q, K105⟩ := hQ105
  subst hv105
  have Cs105 : CHr Z consts_1 T101.vm h104 T101.vm h105 := CHr.keep K105 sf0 Ch104.1
  have Ch105 := Ch104.trans Cs105
  have Xo105 := Xo104.keep K105 all0
  have KK105 := KK104.trans K105 all0
  have N105 := l105 _ N104 N105q
  refine own_to ?_ st105
  refine own_to (V := T105.setTop (mkF m 172 #[sI p0, sI p1, sI p2, sI p3, sI p4, sI p5, sR ob, sR oa, sI va, sI vb, sI 1, sI 1, sR ow, sR oo101, sI 0] [(.int 0), (.int 1), (.ref ob), (.int 2), (.ref oo101)])) ?_ fun t k => (by
    refine XS.ifNo X105.here hx rfl (hb hby at_160) rfl ((if0 _ _).trans (feq ((by decide) : ¬ ((1 : Int32) = (0 : Int32)))).1) ?_
    refine XS.aload X105.here hx rfl (hb hby at_163) rfl rfl ?_
    refine XS.iconst X105.here hx rfl (hb hby at_165) ?_
    refine XS.aload X105.here hx rfl (hb hby at_166) rfl rfl ?_
    refine XS.iload X105.here hx rfl (hb hby at_168) rfl ?_
    refine XS.iload X105.here hx rfl (hb hby at_170) rfl ?_
    exact k)
  obtain ⟨_, T106, h106, L106, Lc106, X106, e106, hQ106, l106, st106⟩ := own_cS (own_rmsm l Z a0 hw hst [] (.ref oo101) (2 : Int32) (.ref ob) (1 : Int32) (0 : Int32) h105 n0 Xo105 rfl rfl (by first | assumption | decide | omega | (simp; done) | rfl)) X105 hx hZ101 hown101 e105 (own_i hw 113 rfl) (own_i hw 114 rfl) (own_i hw 115 rfl) (own_i hw 116 rfl) (by decide) (g := (mkF m 172 #[sI p0, sI p1, sI p2, sI p3, sI p4, sI p5, sR ob, sR oa, sI va, sI vb, sI 1, sI 1, sR ow, sR oo101, sI 0] [(.int 0), (.int 1), (.ref ob), (.int 2), (.ref oo101)])) rfl (by rw [hml]; rfl) (argsL := [(.ref oo101), (.int 2), (.ref ob), (.int 1), (.int 0)]) (rest := []) (lenOf own_pd13 rfl) rfl rfl (hb hby at_172) (W := 0) (Nat.le_of_eq rfl) (K := 7) (N := 24) rfl rfl (by decide) (by decide) (by decide) (by decide)
  obtain ⟨hv106, N106q, K106⟩ := hQ106
  subst hv106
  have Cs106 : CHr Z consts_1 T101.vm h105 T101.vm h106 := CHr.keep K106 sf0 Ch105.1
  have Ch106 := Ch105.trans Cs106
  have Xo106 := Xo105.keep K106 all0
  have KK106 := KK105.trans K106 all0
  have N106 := l106 _ N105 N106q
  refine own_to ?_ st106
  refine own_to (V := T106.setTop (mkF m 187 #[sI p0, sI p1, sI p2, sI p3, sI p4, sI p5, sR ob, sR oa, sI va, sI vb, sI 1, sI 1, sR ow, sR oo101, sI 0] [(.int 0), (.int 1), (.ref ob), (.int 3), (.ref oo101)])) ?_ fun t k => (by
    refine XS.ifNo X106.here hx rfl (hb hby at_175) rfl ((if0 _ _).trans (feq ((by decide) : ¬ ((1 : Int32) = (0 : Int32)))).1) ?_
    refine XS.aload X106.here hx rfl (hb hby at_178) rfl rfl ?_
    refine XS.iconst X106.here hx rfl (hb hby at_180) ?_
    refine XS.aload X106.here hx rfl (hb hby at_181) rfl rfl ?_
    refine XS.iload X106.here hx rfl (hb hby at_183) rfl ?_
    refine XS.iload X106.here hx rfl (hb hby at_185) rfl ?_
    exact k)
  obtain ⟨_, T107, h107, L107, Lc107, X107, e107, hQ107, l107, st107⟩ := own_cS (own_rmsm l Z a0 hw hst [] (.ref oo101) (3 : Int32) (.ref ob) (1 : Int32) (0 : Int32) h106 n0 Xo106 rfl rfl (by first | assumption | decide | omega | (simp; done) | rfl)) X106 hx hZ101 hown101 e106 (own_i hw 113 rfl) (own_i hw 114 rfl) (own_i hw 115 rfl) (own_i hw 116 rfl) (by decide) (g := (mkF m 187 #[sI p0, sI p1, sI p2, sI p3, sI p4, sI p5, sR ob, sR oa, sI va, sI vb, sI 1, sI 1, sR ow, sR oo101, sI 0] [(.int 0), (.int 1), (.ref ob), (.int 3), (.ref oo101)])) rfl (by rw [hml]; rfl) (argsL := [(.ref oo101), (.int 3), (.ref ob), (.int 1), (.int 0)]) (rest := []) (lenOf own_pd13 rfl) rfl rfl (hb hby at_187) (W := 0) (Nat.le_of_eq rfl) (K := 7) (N := 24) rfl rfl (by decide) (by decide) (by decide) (by decide)
  obtain ⟨hv107, N107q, K107⟩ := hQ107
  subst hv107
  have Cs107 : CHr Z consts_1 T101.vm h106 T101.vm h107 := CHr.keep K107 sf0 Ch106.1
  have Ch107 := Ch106.trans Cs107
  have Xo107 := Xo106.keep K107 all0
  have KK107 := KK106.trans K107 all0
  have N107 := l107 _ N106 N107q
  refine own_to ?_ st107
  refine own_to (V := T107.setTop (mkF m 198 #[sI p0, sI p1, sI p2, sI p3, sI p4, sI p5, sR ob, sR oa, sI va, sI vb, sI 1, sI 1, sR ow, sR oo101, sI 0] [(.int 1)])) ?_ fun t k => (by
    refine XS.ifNo X107.here hx rfl (hb hby at_190) rfl ((if0 _ _).trans (feq ((by decide) : ¬ ((1 : Int32) = (0 : Int32)))).1) ?_
    refine XS.iconst X107.here hx rfl (hb hby at_193) ?_
    refine XS.goto X107.here hx rfl (pc0 := 194) (pc' := 198) rfl (hb hby at_194) (by decide) (by decide) ?_
    exact k)
  exact own_retNH X107 hx hS101 (own_hk e107 (Nat.le_trans (Nat.le_trans (Nat.le_trans (Nat.le_trans hk101 K104.1) K105.1) K106.1) K107.1)) (by rw [e107, hh]; exact Ch107.trans (CHv.at X107 hZ101 (own_hEL hw) Ch107.1)) (t := .boolean) (w := (1 : Int32)) hret (by decide) rfl hlk (hb hby at_198) (by rw [e107]; exact (⟨rfl, N107, KK107⟩)) (by decide) (by decide)
theorem own_sglaw12 (l : Launch) (Z : State) (a0 : Array Value) (hw : ∀ d ∈ tables_1, d.before a0 Z = true) (hst : own_St Z) (p0 p1 p2 p3 p4 p5 : Int32) (h0 : Heap) (n0 : Nat) (ob : Addr) (kb : ClassId) (oa : Addr) (ua : Addr) (va : Int32) (vb : Int32) (c0 : Int32) (c1 : Int32) (c2 : Int32) (c3 : Int32) (ow : Addr)
    {p : Program} {e : Env} {s : State} {m : MethodId} {args : Array Value} {below : List Frame} {meth : Method} {c : Code} (hx : p.tables.exec = Jvm.exec) (hby : c.code = code) (hret : meth.sig.returnType = ret) (hlk : meth.locks = false) (hml : c.maxLocals = 15) (hnm : meth.name = "law") {vm0 : Vm} {k0 : Nat} (hS0 : s.Since vm0 k0) (hh : s.heap = h0) (hZ : Z.Warmed39 (s.setVm vm0).vm) (hown : (s.setVm vm0).vm.findClass "com/example/capstrike/capstrike/TermTextToStringPinLaw" = some m.cls)
    {T0 : State} {locs : List Loc} {h : Heap} (X0 : Stand p l e room_1 (s.setVm vm0) m args below meth c T0 locs 5 20) (e0 : T0.heap = h) (hk0 : k0 ≤ h.size) (Ch0 : CHr Z consts_1 s.vm h0 vm0 h) (N0 : Fr n0 locs) (Xo0 : Old Z n0 h) (KK0 : Keep h0 h []) (l0 : ¬ c0 < 0 ∧ ¬ (255 : Int32) < c0) (l1 : ¬ c1 < 0 ∧ ¬ (255 : Int32) < c1) (l2 : ¬ c2 < 0 ∧ ¬ (255 : Int32) < c2) (l3 : ¬ c3 < 0 ∧ ¬ (255 : Int32) < c3) (hS : own_Str Z h oa ua ([c0, c1, c2, c3] : List Int32)) (hA : Arv Z h ob kb .char (4 : Int32) [(.int c0), (.int c1), (.int c2), (.int c3)] (.int (0 : Int32))) (hE : Exa Z h ow nm1) (f1 : Fld Z h ow nm1 "text" nm2 (.ref oa)) (f2 : Fld Z h ow nm1 "start" "I" (.int 1)) (f3 : Fld Z h ow nm1 "end" "I" (.int 2)) :
    own_Go p e below (own_PostH Z s (own_Qlaw Z p0 p1 p2 p3 p4 p5 h0 n0) room_1.cells room_1.slots) (T0.setTop (mkF m 107 #[sI p0, sI p1, sI p2, sI p3, sI p4, sI p5, sR ob, sR oa, sI va, sI vb, sI 1, sI 2, sR ow, .unset, .unset] [])) := by
  obtain ⟨⟨G1, O2, P5⟩, ⟨G3, O4, rG3⟩, -⟩ := id hst
  refine own_to (V := T0.setTop (mkF m 109 #[sI p0, sI p1, sI p2, sI p3, sI p4, sI p5, sR ob, sR oa, sI va, sI vb, sI 1, sI 2, sR ow, .unset, .unset] [(.ref ow)])) ?_ fun t k => (by
    refine XS.aload X0.here hx rfl (hb hby at_107) rfl rfl ?_
    exact k)
  obtain ⟨_, T101, h101, L101, Lc101, X101, e101, hQ101, l101, st101⟩ := own_cV (own_rmtos12 l Z a0 hw hst [] ow oa ua c0 c1 c2 c3 h n0 Xo0 l0 l1 l2 l3 hE f1 f2 f3 hS) X0 hx hZ hown e0 hE (own_i hw 56 rfl) (own_i hw 57 rfl) (notFace_of_selects (args := #[]) (mvT hZ (own_i hw 59 rfl))) (own_i hw 59 rfl) (own_i hw 58 rfl) (own_i hw 40 rfl) (own_i hw 60 rfl) (by decide) (g := (mkF m 109 #[sI p0, sI p1, sI p2, sI p3, sI p4, sI p5, sR ob, sR oa, sI va, sI vb, sI 1, sI 2, sR ow, .unset, .unset] [(.ref ow)])) rfl (by rw [hml]; rfl) (argsL := []) (rest := []) (lenOf own_pd12 rfl) rfl rfl (hb hby at_109) (W := 0) (Nat.le_of_eq rfl) (K := 7) (N := 25) rfl rfl (by decide) (by decide) (by decide) (by decide)
  obtain ⟨oo101, ou101, hv101, N101q, K101, g101_0⟩ := hQ101
  subst hv101
  have Cs101 : CHr Z consts_1 vm0 h vm0 h101 := CHr.keep K101 sf0 Ch0.1
  have Ch101 := Ch0.trans Cs101
  have Xo101 := Xo0.keep K101 all0
  have KK101 := KK0.trans K101 all0
  have N101 := l101 _ N0 N101q
  refine own_to ?_ st101
  refine own_to (V := T101.setTop (mkF m 123 #[sI p0, sI p1, sI p2, sI p3, sI p4, sI p5, sR ob, sR oa, sI va, sI vb, sI 1, sI 2, sR ow, sR oo101, sI 1] [(.ref oo101)])) ?_ fun t k => (by
    refine XS.astore X101.here hx rfl (hb hby at_112) rfl rfl (l' := #[sI p0, sI p1, sI p2, sI p3, sI p4, sI p5, sR ob, sR oa, sI va, sI vb, sI 1, sI 2, sR ow, sR oo101, .unset]) rfl ?_
    refine XS.iload X101.here hx rfl (hb hby at_114) rfl ?_
    refine XS.iload X101.here hx rfl (hb hby at_116) rfl ?_
    refine XS.isub X101.here hx rfl (hb hby at_118) rfl ?_
    refine XS.istore X101.here hx rfl (hb hby at_119) rfl (l' := #[sI p0, sI p1, sI p2, sI p3, sI p4, sI p5, sR ob, sR oa, sI va, sI vb, sI 1, sI 2, sR ow, sR oo101, sI 1]) rfl ?_
    refine XS.aload X101.here hx rfl (hb hby at_121) rfl rfl ?_
    exact k)
  obtain ⟨sE103, sd103, sN103, sk103, sv103, sV103, sC103, sK103, sc103, sb103, sl103⟩ := id g101_0
  obtain ⟨cq102, kq102, q102a, q102b, q102c⟩ := isOf hZ e101 g101_0.1
  obtain ⟨_, _, ⟨T102, L102, k102, n102⟩, -, X102, ⟨Lc102, hQ102, l102, y102, z102⟩, st102⟩ := X101.virtualBack hx (y := own_mn11) (z := own_mn11) hown (mvT hZ (own_i hw 112 rfl)) (mvT hZ (own_i hw 67 rfl)) (notFace_of_selects (args := #[]) (mvT hZ (own_i hw 69 rfl))) (mvT hZ (own_i hw 69 rfl)) (mvT hZ (own_i hw 68 rfl)) (by decide) (StrChars.Road.lenW (W := 0) hZ (own_hln hw) (kI := 4) (own_i hw 2 rfl) sE103 sV103 sC103 sK103 sc103 sb103 (O2.ext Xo101.2) P5 sl103 (by decide) (by decide)) q102a q102c (g := (mkF m 123 #[sI p0, sI p1, sI p2, sI p3, sI p4, sI p5, sR ob, sR oa, sI va, sI vb, sI 1, sI 2, sR ow, sR oo101, sI 1] [(.ref oo101)])) rfl (by rw [hml]; rfl) (Steps.refl _) (argsL := []) (rest := []) (lenOf own_pd2 rfl) rfl (by show 2 * 0 + _ ≤ _; exact Nat.le_of_eq rfl) (hb hby at_123) (fun _ _ => ⟨rfl, e101, (by decide : 7 + 0 ≤ _), (by decide : 25 + 0 ≤ _)⟩)
  dsimp only [own_R, Pt.U, Pt.locs, Pt.cells, Pt.slots] at X102 l102 y102 z102 st102 hQ102
  subst y102 z102
  obtain ⟨hv102, hL102, hh102⟩ := hQ102
  subst hL102
  have N102 : Fr n0 L102 := by rw [l102]; exact Fr.app N101 (Fr.nil n0)
  subst hv102
  refine own_to ?_ (fun t k => st102.trans k)
  refine own_to (V := T102.setTop (mkF m 142 #[sI p0, sI p1, sI p2, sI p3, sI p4, sI p5, sR ob, sR oa, sI va, sI vb, sI 1, sI 2, sR ow, sR oo101, sI 1] [(.int 1), (.int 1), (.ref ob), (.int 0), (.ref oo101)])) ?_ fun t k => (by
    refine XS.iload X102.here hx rfl (hb hby at_126) rfl ?_
    refine XS.icmpYes X102.here hx rfl (pc0 := 128) (pc' := 133) rfl (hb hby at_128) rfl (teq ((by decide) : (1 : Int32) = (1 : Int32))).1 (by decide) (by decide) ?_
    refine XS.aload X102.here hx rfl (hb hby at_133) rfl rfl ?_
    refine XS.iconst X102.here hx rfl (hb hby at_135) ?_
    refine XS.aload X102.here hx rfl (hb hby at_136) rfl rfl ?_
    refine XS.iload X102.here hx rfl (hb hby at_138) rfl ?_
    refine XS.iload X102.here hx rfl (hb hby at_140) rfl ?_
    exact k)
  have F105 := (hA.keep K101 List.not_mem_nil)
  obtain ⟨_, T104, h104, L104, Lc104, X104, e104, hQ104, l104, st104⟩ := own_cS (own_rmsm110 l Z a0 hw hst [] oo101 ou101 ob kb c0 c1 c2 c3 h101 n0 Xo101 l0 l1 l2 l3 g101_0 F105) X102 hx hZ hown hh102 (own_i hw 113 rfl) (own_i hw 114 rfl) (own_i hw 115 rfl) (own_i hw 116 rfl) (by decide) (g := (mkF m 142 #[sI p0, sI p1, sI p2, sI p3, sI p4, sI p5, sR ob, sR oa, sI va, sI vb, sI 1, sI 2, sR ow, sR oo101, sI 1] [(.int 1), (.int 1), (.ref ob), (.int 0), (.ref oo101)])) rfl (by rw [hml]; rfl) (argsL := [(.ref oo101), (.int 0), (.ref ob), (.int 1), (.int 1)]) (rest := []) (lenOf own_pd13 rfl) rfl rfl (hb hby at_142) (W := 0) (Nat.le_of_eq rfl) (K := 7) (N := 25) rfl rfl (by decide) (by decide) (by decide) (by decide)
  obtain ⟨hv104, N104q, K104⟩ := hQ104
  subst hv104
  have Cs104 : CHr Z consts_1 vm0 h101 vm0 h104 := CHr.keep K104 sf0 Ch101.1
  have Ch104 := Ch101.trans Cs104
  have Xo104 := Xo101.keep K104 all0
  have KK104 := KK101.trans K104 all0
  have N104 := l104 _ N102 N104q
  refine own_to ?_ st104
  refine own_to (V := T104.setTop (mkF m 157 #[sI p0, sI p1, sI p2, sI p3, sI p4, sI p5, sR ob, sR oa, sI va, sI vb, sI 1, sI 2, sR ow, sR oo101, sI 1] [(.int 1), (.int 1), (.ref ob), (.int 1), (.ref oo101)])) ?_ fun t k => (by
    refine XS.ifNo X104.here hx rfl (hb hby at_145) rfl ((if0 _ _).trans (feq ((by decide) : ¬ ((1 : Int32) = (0 : Int32)))).1) ?_
    refine XS.aload X104.here hx rfl (hb hby at_148) rfl rfl ?_
    refine XS.iconst X104.here hx rfl (hb hby at_150) ?_
    refine XS.aload X104.here hx rfl (hb hby at_151) rfl rfl ?_
    refine XS.iload X104.here hx rfl (hb hby at_153) rfl ?_
    refine XS.iload X104.here hx rfl (hb hby at_155) rfl ?_
    exact k)
  obtain ⟨_, T106, h106, L106, Lc106, X106, e106, hQ106, l106, st106⟩ := own_cS (own_rmsm l Z a0 hw hst [] (.ref oo101) (1 : Int32) (.ref ob) (1 : Int32) (1 : Int32) h104 n0 Xo104 rfl rfl (by first | assumption | decide | omega | (simp; done) | rfl)) X104 hx hZ hown e104 (own_i hw 113 rfl) (own_i hw 114 rfl) (own_i hw 115 rfl) (own_i hw 116 rfl) (by decide) (g := (mkF m 157 #[sI p0, sI p1, sI p2, sI p3, sI p4, sI p5, sR ob, sR oa, sI va, sI vb, sI 1, sI 2, sR ow, sR oo101, sI 1] [(.int 1), (.int 1), (.ref ob), (.int 1), (.ref oo101)])) rfl (by rw [hml]; rfl) (argsL := [(.ref oo101), (.int 1), (.ref ob), (.int 1), (.int 1)]) (rest := []) (lenOf own_pd13 rfl) rfl rfl (hb hby at_157) (W := 0) (Nat.le_of_eq rfl) (K := 7) (N := 25) rfl rfl (by decide) (by decide) (by decide) (by decide)
  obtain ⟨hv106, N106q, K106⟩ := hQ106
  subst hv106
  have Cs106 : CHr Z consts_1 vm0 h104 vm0 h106 := CHr.keep K106 sf0 Ch104.1
  have Ch106 := Ch104.trans Cs106
  have Xo106 := Xo104.keep K106 all0
  have KK106 := KK104.trans K106 all0
  have N106 := l106 _ N104 N106q
  refine own_to ?_ st106
  refine own_to (V := T106.setTop (mkF m 172 #[sI p0, sI p1, sI p2, sI p3, sI p4, sI p5, sR ob, sR oa, sI va, sI vb, sI 1, sI 2, sR ow, sR oo101, sI 1] [(.int 1), (.int 1), (.ref ob), (.int 2), (.ref oo101)])) ?_ fun t k => (by
    refine XS.ifNo X106.here hx rfl (hb hby at_160) rfl ((if0 _ _).trans (feq ((by decide) : ¬ ((1 : Int32) = (0 : Int32)))).1) ?_
    refine XS.aload X106.here hx rfl (hb hby at_163) rfl rfl ?_
    refine XS.iconst X106.here hx rfl (hb hby at_165) ?_
    refine XS.aload X106.here hx rfl (hb hby at_166) rfl rfl ?_
    refine XS.iload X106.here hx rfl (hb hby at_168) rfl ?_
    refine XS.iload X106.here hx rfl (hb hby at_170) rfl ?_
    exact k)
  obtain ⟨_, T107, h107, L107, Lc107, X107, e107, hQ107, l107, st107⟩ := own_cS (own_rmsm l Z a0 hw hst [] (.ref oo101) (2 : Int32) (.ref ob) (1 : Int32) (1 : Int32) h106 n0 Xo106 rfl rfl (by first | assumption | decide | omega | (simp; done) | rfl)) X106 hx hZ hown e106 (own_i hw 113 rfl) (own_i hw 114 rfl) (own_i hw 115 rfl) (own_i hw 116 rfl) (by decide) (g := (mkF m 172 #[sI p0, sI p1, sI p2, sI p3, sI p4, sI p5, sR ob, sR oa, sI va, sI vb, sI 1, sI 2, sR ow, sR oo101, sI 1] [(.int 1), (.int 1), (.ref ob), (.int 2), (.ref oo101)])) rfl (by rw [hml]; rfl) (argsL := [(.ref oo101), (.int 2), (.ref ob), (.int 1), (.int 1)]) (rest := []) (lenOf own_pd13 rfl) rfl rfl (hb hby at_172) (W := 0) (Nat.le_of_eq rfl) (K := 7) (N := 25) rfl rfl (by decide) (by decide) (by decide) (by decide)
  obtain ⟨hv107, N107q, K107⟩ := hQ107
  subst hv107
  have Cs107 : CHr Z consts_1 vm0 h106 vm0 h107 := CHr.keep K107 sf0 Ch106.1
  have Ch107 := Ch106.trans Cs107
  have Xo107 := Xo106.keep K107 all0
  have KK107 := KK106.trans K107 all0
  have N107 := l107 _ N106 N107q
  refine own_to ?_ st107
  refine own_to (V := T107.setTop (mkF m 187 #[sI p0, sI p1, sI p2, sI p3, sI p4, sI p5, sR ob, sR oa, sI va, sI vb, sI 1, sI 2, sR ow, sR oo101, sI 1] [(.int 1), (.int 1), (.ref ob), (.int 3), (.ref oo101)])) ?_ fun t k => (by
    refine XS.ifNo X107.here hx rfl (hb hby at_175) rfl ((if0 _ _).trans (feq ((by decide) : ¬ ((1 : Int32) = (0 : Int32)))).1) ?_
    refine XS.aload X107.here hx rfl (hb hby at_178) rfl rfl ?_
    refine XS.iconst X107.here hx rfl (hb hby at_180) ?_
    refine XS.aload X107.here hx rfl (hb hby at_181) rfl rfl ?_
    refine XS.iload X107.here hx rfl (hb hby at_183) rfl ?_
    refine XS.iload X107.here hx rfl (hb hby at_185) rfl ?_
    exact k)
  obtain ⟨_, T108, h108, L108, Lc108, X108, e108, hQ108, l108, st108⟩ := own_cS (own_rmsm l Z a0 hw hst [] (.ref oo101) (3 : Int32) (.ref ob) (1 : Int32) (1 : Int32) h107 n0 Xo107 rfl rfl (by first | assumption | decide | omega | (simp; done) | rfl)) X107 hx hZ hown e107 (own_i hw 113 rfl) (own_i hw 114 rfl) (own_i hw 115 rfl) (own_i hw 116 rfl) (by decide) (g := (mkF m 187 #[sI p0, sI p1, sI p2, sI p3, sI p4, sI p5, sR ob, sR oa, sI va, sI vb, sI 1, sI 2, sR ow, sR oo101, sI 1] [(.int 1), (.int 1), (.ref ob), (.int 3), (.ref oo101)])) rfl (by rw [hml]; rfl) (argsL := [(.ref oo101), (.int 3), (.ref ob), (.int 1), (.int 1)]) (rest := []) (lenOf own_pd13 rfl) rfl rfl (hb hby at_187) (W := 0) (Nat.le_of_eq rfl) (K := 7) (N := 25) rfl rfl (by decide) (by decide) (by decide) (by decide)
  obtain ⟨hv108, N108q, K108⟩ := hQ108
  subst hv108
  have Cs108 : CHr Z consts_1 vm0 h107 vm0 h108 := CHr.keep K108 sf0 Ch107.1
  have Ch108 := Ch107.trans Cs108
  have Xo108 := Xo107.keep K108 all0
  have KK108 := KK107.trans K108 all0
  have N108 := l108 _ N107 N108q
  refine own_to ?_ st108
  refine own_to (V := T108.setTop (mkF m 198 #[sI p0, sI p1, sI p2, sI p3, sI p4, sI p5, sR ob, sR oa, sI va, sI vb, sI 1, sI 2, sR ow, sR oo101, sI 1] [(.int 1)])) ?_ fun t k => (by
    refine XS.ifNo X108.here hx rfl (hb hby at_190) rfl ((if0 _ _).trans (feq ((by decide) : ¬ ((1 : Int32) = (0 : Int32)))).1) ?_
    refine XS.iconst X108.here hx rfl (hb hby at_193) ?_
    refine XS.goto X108.here hx rfl (pc0 := 194) (pc' := 198) rfl (hb hby at_194) (by decide) (by decide) ?_
    exact k)
  exact own_retNH X108 hx hS0 (own_hk e108 (Nat.le_trans (Nat.le_trans (Nat.le_trans (Nat.le_trans (Nat.le_trans hk0 K101.1) K104.1) K106.1) K107.1) K108.1)) (by rw [e108, hh]; exact Ch108.trans (CHv.at X108 hZ (own_hEL hw) Ch108.1)) (t := .boolean) (w := (1 : Int32)) hret (by decide) rfl hlk (hb hby at_198) (by rw [e108]; exact (⟨rfl, N108, KK108⟩)) (by decide) (by decide)
theorem own_sglaw13 (l : Launch) (Z : State) (a0 : Array Value) (hw : ∀ d ∈ tables_1, d.before a0 Z = true) (hst : own_St Z) (p0 p1 p2 p3 p4 p5 : Int32) (h0 : Heap) (n0 : Nat) (ob : Addr) (kb : ClassId) (oa : Addr) (ua : Addr) (va : Int32) (vb : Int32) (c0 : Int32) (c1 : Int32) (c2 : Int32) (c3 : Int32) (ow : Addr)
    {p : Program} {e : Env} {s : State} {m : MethodId} {args : Array Value} {below : List Frame} {meth : Method} {c : Code} (hx : p.tables.exec = Jvm.exec) (hby : c.code = code) (hret : meth.sig.returnType = ret) (hlk : meth.locks = false) (hml : c.maxLocals = 15) (hnm : meth.name = "law") {vm0 : Vm} {k0 : Nat} (hS0 : s.Since vm0 k0) (hh : s.heap = h0) (hZ : Z.Warmed39 (s.setVm vm0).vm) (hown : (s.setVm vm0).vm.findClass "com/example/capstrike/capstrike/TermTextToStringPinLaw" = some m.cls)
    {T0 : State} {locs : List Loc} {h : Heap} (X0 : Stand p l e room_1 (s.setVm vm0) m args below meth c T0 locs 5 20) (e0 : T0.heap = h) (hk0 : k0 ≤ h.size) (Ch0 : CHr Z consts_1 s.vm h0 vm0 h) (N0 : Fr n0 locs) (Xo0 : Old Z n0 h) (KK0 : Keep h0 h []) (l0 : ¬ c0 < 0 ∧ ¬ (255 : Int32) < c0) (l1 : ¬ c1 < 0 ∧ ¬ (255 : Int32) < c1) (l2 : ¬ c2 < 0 ∧ ¬ (255 : Int32) < c2) (l3 : ¬ c3 < 0 ∧ ¬ (255 : Int32) < c3) (hS : own_Str Z h oa ua ([c0, c1, c2, c3] : List Int32)) (hA : Arv Z h ob kb .char (4 : Int32) [(.int c0), (.int c1), (.int c2), (.int c3)] (.int (0 : Int32))) (hE : Exa Z h ow nm1) (f1 : Fld Z h ow nm1 "text" nm2 (.ref oa)) (f2 : Fld Z h ow nm1 "start" "I" (.int 1)) (f3 : Fld Z h ow nm1 "end" "I" (.int 3)) :
    own_Go p e below (own_PostH Z s (own_Qlaw Z p0 p1 p2 p3 p4 p5 h0 n0) room_1.cells room_1.slots) (T0.setTop (mkF m 107 #[sI p0, sI p1, sI p2, sI p3, sI p4, sI p5, sR ob, sR oa, sI va, sI vb, sI 1, sI 3, sR ow, .unset, .unset] [])) := by
  obtain ⟨⟨G1, O2, P5⟩, ⟨G3, O4, rG3⟩, -⟩ := id hst
  refine own_to (V := T0.setTop (mkF m 109 #[sI p0, sI p1, sI p2, sI p3, sI p4, sI p5, sR ob, sR oa, sI va, sI vb, sI 1, sI 3, sR ow, .unset, .unset] [(.ref ow)])) ?_ fun t k => (by
    refine XS.aload X0.here hx rfl (hb hby at_107) rfl rfl ?_
    exact k)
  obtain ⟨_, T101, h101, L101, Lc101, X101, e101, hQ101, l101, st101⟩ := own_cV (own_rmtos13 l Z a0 hw hst [] ow oa ua c0 c1 c2 c3 h n0 Xo0 l0 l1 l2 l3 hE f1 f2 f3 hS) X0 hx hZ hown e0 hE (own_i hw 56 rfl) (own_i hw 57 rfl) (notFace_of_selects (args := #[]) (mvT hZ (own_i hw 59 rfl))) (own_i hw 59 rfl) (own_i hw 58 rfl) (own_i hw 40 rfl) (own_i hw 60 rfl) (by decide) (g := (mkF m 109 #[sI p0, sI p1, sI p2, sI p3, sI p4, sI p5, sR ob, sR oa, sI va, sI vb, sI 1, sI 3, sR ow, .unset, .unset] [(.ref ow)])) rfl (by rw [hml]; rfl) (argsL := []) (rest := []) (lenOf own_pd12 rfl) rfl rfl (hb hby at_109) (W := 0) (Nat.le_of_eq rfl) (K := 7) (N := 26) rfl rfl (by decide) (by decide) (by decide) (by decide)
  obtain ⟨oo101, ou101, hv101, N101q, K101, g101_0⟩ := hQ101
  subst hv101
  have Cs101 : CHr Z consts_1 vm0 h vm0 h101 := CHr.keep K101 sf0 Ch0.1
  have Ch101 := Ch0.trans Cs101
  have Xo101 := Xo0.keep K101 all0
  have KK101 := KK0.trans K101 all0
  have N101 := l101 _ N0 N101q
  refine own_to ?_ st101
  refine own_to (V := T101.setTop (mkF m 123 #[sI p0, sI p1, sI p2, sI p3, sI p4, sI p5, sR ob, sR oa, sI va, sI vb, sI 1, sI 3, sR ow, sR oo101, sI 2] [(.ref oo101)])) ?_ fun t k => (by
    refine XS.astore X101.here hx rfl (hb hby at_112) rfl rfl (l' := #[sI p0, sI p1, sI p2, sI p3, sI p4, sI p5, sR ob, sR oa, sI va, sI vb, sI 1, sI 3, sR ow, sR oo101, .unset]) rfl ?_
    refine XS.iload X101.here hx rfl (hb hby at_114) rfl ?_
    refine XS.iload X101.here hx rfl (hb hby at_116) rfl ?_
    refine XS.isub X101.here hx rfl (hb hby at_118) rfl ?_
    refine XS.istore X101.here hx rfl (hb hby at_119) rfl (l' := #[sI p0, sI p1, sI p2, sI p3, sI p4, sI p5, sR ob, sR oa, sI va, sI vb, sI 1, sI 3, sR ow, sR oo101, sI 2]) rfl ?_
    refine XS.aload X101.here hx rfl (hb hby at_121) rfl rfl ?_
    exact k)
  obtain ⟨sE103, sd103, sN103, sk103, sv103, sV103, sC103, sK103, sc103, sb103, sl103⟩ := id g101_0
  obtain ⟨cq102, kq102, q102a, q102b, q102c⟩ := isOf hZ e101 g101_0.1
  obtain ⟨_, _, ⟨T102, L102, k102, n102⟩, -, X102, ⟨Lc102, hQ102, l102, y102, z102⟩, st102⟩ := X101.virtualBack hx (y := own_mn11) (z := own_mn11) hown (mvT hZ (own_i hw 112 rfl)) (mvT hZ (own_i hw 67 rfl)) (notFace_of_selects (args := #[]) (mvT hZ (own_i hw 69 rfl))) (mvT hZ (own_i hw 69 rfl)) (mvT hZ (own_i hw 68 rfl)) (by decide) (StrChars.Road.lenW (W := 0) hZ (own_hln hw) (kI := 4) (own_i hw 2 rfl) sE103 sV103 sC103 sK103 sc103 sb103 (O2.ext Xo101.2) P5 sl103 (by decide) (by decide)) q102a q102c (g := (mkF m 123 #[sI p0, sI p1, sI p2, sI p3, sI p4, sI p5, sR ob, sR oa, sI va, sI vb, sI 1, sI 3, sR ow, sR oo101, sI 2] [(.ref oo101)])) rfl (by rw [hml]; rfl) (Steps.refl _) (argsL := []) (rest := []) (lenOf own_pd2 rfl) rfl (by show 2 * 0 + _ ≤ _; exact Nat.le_of_eq rfl) (hb hby at_123) (fun _ _ => ⟨rfl, e101, (by decide : 7 + 0 ≤ _), (by decide : 26 + 0 ≤ _)⟩)
  dsimp only [own_R, Pt.U, Pt.locs, Pt.cells, Pt.slots] at X102 l102 y102 z102 st102 hQ102
  subst y102 z102
  obtain ⟨hv102, hL102, hh102⟩ := hQ102
  subst hL102
  have N102 : Fr n0 L102 := by rw [l102]; exact Fr.app N101 (Fr.nil n0)
  subst hv102
  refine own_to ?_ (fun t k => st102.trans k)
  refine own_to (V := T102.setTop (mkF m 142 #[sI p0, sI p1, sI p2, sI p3, sI p4, sI p5, sR ob, sR oa, sI va, sI vb, sI 1, sI 3, sR ow, sR oo101, sI 2] [(.int 2), (.int 1), (.ref ob), (.int 0), (.ref oo101)])) ?_ fun t k => (by
    refine XS.iload X102.here hx rfl (hb hby at_126) rfl ?_
    refine XS.icmpYes X102.here hx rfl (pc0 := 128) (pc' := 133) rfl (hb hby at_128) rfl (teq ((by decide) : (2 : Int32) = (2 : Int32))).1 (by decide) (by decide) ?_
    refine XS.aload X102.here hx rfl (hb hby at_133) rfl rfl ?_
    refine XS.iconst X102.here hx rfl (hb hby at_135) ?_
    refine XS.aload X102.here hx rfl (hb hby at_136) rfl rfl ?_
    refine XS.iload X102.here hx rfl (hb hby at_138) rfl ?_
    refine XS.iload X102.here hx rfl (hb hby at_140) rfl ?_
    exact k)
  have F105 := (hA.keep K101 List.not_mem_nil)
  obtain ⟨_, T104, h104, L104, Lc104, X104, e104, hQ104, l104, st104⟩ := own_cS (own_rmsm210 l Z a0 hw hst [] oo101 ou101 ob kb c0 c1 c2 c3 h101 n0 Xo101 l0 l1 l2 l3 g101_0 F105) X102 hx hZ hown hh102 (own_i hw 113 rfl) (own_i hw 114 rfl) (own_i hw 115 rfl) (own_i hw 116 rfl) (by decide) (g := (mkF m 142 #[sI p0, sI p1, sI p2, sI p3, sI p4, sI p5, sR ob, sR oa, sI va, sI vb, sI 1, sI 3, sR ow, sR oo101, sI 2] [(.int 2), (.int 1), (.ref ob), (.int 0), (.ref oo101)])) rfl (by rw [hml]; rfl) (argsL := [(.ref oo101), (.int 0), (.ref ob), (.int 1), (.int 2)]) (rest := []) (lenOf own_pd13 rfl) rfl rfl (hb hby at_142) (W := 0) (Nat.le_of_eq rfl) (K := 7) (N := 26) rfl rfl (by decide) (by decide) (by decide) (by decide)
  obtain ⟨hv104, N104q, K104⟩ := hQ104
  subst hv104
  have Cs104 : CHr Z consts_1 vm0 h101 vm0 h104 := CHr.keep K104 sf0 Ch101.1
  have Ch104 := Ch101.trans Cs104
  have Xo104 := Xo101.keep K104 all0
  have KK104 := KK101.trans K104 all0
  have N104 := l104 _ N102 N104q
  refine own_to ?_ st104
  refine own_to (V := T104.setTop (mkF m 157 #[sI p0, sI p1, sI p2, sI p3, sI p4, sI p5, sR ob, sR oa, sI va, sI vb, sI 1, sI 3, sR ow, sR oo101, sI 2] [(.int 2), (.int 1), (.ref ob), (.int 1), (.ref oo101)])) ?_ fun t k => (by
    refine XS.ifNo X104.here hx rfl (hb hby at_145) rfl ((if0 _ _).trans (feq ((by decide) : ¬ ((1 : Int32) = (0 : Int32)))).1) ?_
    refine XS.aload X104.here hx rfl (hb hby at_148) rfl rfl ?_
    refine XS.iconst X104.here hx rfl (hb hby at_150) ?_
    refine XS.aload X104.here hx rfl (hb hby at_151) rfl rfl ?_
    refine XS.iload X104.here hx rfl (hb hby at_153) rfl ?_
    refine XS.iload X104.here hx rfl (hb hby at_155) rfl ?_
    exact k)
  have F107 := (g101_0.keep K104 List.not_mem_nil List.not_mem_nil)
  have F108 := (F105.keep K104 List.not_mem_nil)
  obtain ⟨_, T106, h106, L106, Lc106, X106, e106, hQ106, l106, st106⟩ := own_cS (own_rmsm211 l Z a0 hw hst [] oo101 ou101 ob kb c0 c1 c2 c3 h104 n0 Xo104 l0 l1 l2 l3 F107 F108) X104 hx hZ hown e104 (own_i hw 113 rfl) (own_i hw 114 rfl) (own_i hw 115 rfl) (own_i hw 116 rfl) (by decide) (g := (mkF m 157 #[sI p0, sI p1, sI p2, sI p3, sI p4, sI p5, sR ob, sR oa, sI va, sI vb, sI 1, sI 3, sR ow, sR oo101, sI 2] [(.int 2), (.int 1), (.ref ob), (.int 1), (.ref oo101)])) rfl (by rw [hml]; rfl) (argsL := [(.ref oo101), (.int 1), (.ref ob), (.int 1), (.int 2)]) (rest := []) (lenOf own_pd13 rfl) rfl rfl (hb hby at_157) (W := 0) (Nat.le_of_eq rfl) (K := 7) (N := 26) rfl rfl (by decide) (by decide) (by decide) (by decide)
  obtain ⟨hv106, N106q, K106⟩ := hQ106
  subst hv106
  have Cs106 : CHr Z consts_1 vm0 h104 vm0 h106 := CHr.keep K106 sf0 Ch104.1
  have Ch106 := Ch104.trans Cs106
  have Xo106 := Xo104.keep K106 all0
  have KK106 := KK104.trans K106 all0
  have N106 := l106 _ N104 N106q
  refine own_to ?_ st106
  refine own_to (V := T106.setTop (mkF m 172 #[sI p0, sI p1, sI p2, sI p3, sI p4, sI p5, sR ob, sR oa, sI va, sI vb, sI 1, sI 3, sR ow, sR oo101, sI 2] [(.int 2), (.int 1), (.ref ob), (.int 2), (.ref oo101)])) ?_ fun t k => (by
    refine XS.ifNo X106.here hx rfl (hb hby at_160) rfl ((if0 _ _).trans (feq ((by decide) : ¬ ((1 : Int32) = (0 : Int32)))).1) ?_
    refine XS.aload X106.here hx rfl (hb hby at_163) rfl rfl ?_
    refine XS.iconst X106.here hx rfl (hb hby at_165) ?_
    refine XS.aload X106.here hx rfl (hb hby at_166) rfl rfl ?_
    refine XS.iload X106.here hx rfl (hb hby at_168) rfl ?_
    refine XS.iload X106.here hx rfl (hb hby at_170) rfl ?_
    exact k)
  obtain ⟨_, T109, h109, L109, Lc109, X109, e109, hQ109, l109, st109⟩ := own_cS (own_rmsm l Z a0 hw hst [] (.ref oo101) (2 : Int32) (.ref ob) (1 : Int32) (2 : Int32) h106 n0 Xo106 rfl rfl (by first | assumption | decide | omega | (simp; done) | rfl)) X106 hx hZ hown e106 (own_i hw 113 rfl) (own_i hw 114 rfl) (own_i hw 115 rfl) (own_i hw 116 rfl) (by decide) (g := (mkF m 172 #[sI p0, sI p1, sI p2, sI p3, sI p4, sI p5, sR ob, sR oa, sI va, sI vb, sI 1, sI 3, sR ow, sR oo101, sI 2] [(.int 2), (.int 1), (.ref ob), (.int 2), (.ref oo101)])) rfl (by rw [hml]; rfl) (argsL := [(.ref oo101), (.int 2), (.ref ob), (.int 1), (.int 2)]) (rest := []) (lenOf own_pd13 rfl) rfl rfl (hb hby at_172) (W := 0) (Nat.le_of_eq rfl) (K := 7) (N := 26) rfl rfl (by decide) (by decide) (by decide) (by decide)
  obtain ⟨hv109, N109q, K109⟩ := hQ109
  subst hv109
  have Cs109 : CHr Z consts_1 vm0 h106 vm0 h109 := CHr.keep K109 sf0 Ch106.1
  have Ch109 := Ch106.trans Cs109
  have Xo109 := Xo106.keep K109 all0
  have KK109 := KK106.trans K109 all0
  have N109 := l109 _ N106 N109q
  refine own_to ?_ st109
  refine own_to (V := T109.setTop (mkF m 187 #[sI p0, sI p1, sI p2, sI p3, sI p4, sI p5, sR ob, sR oa, sI va, sI vb, sI 1, sI 3, sR ow, sR oo101, sI 2] [(.int 2), (.int 1), (.ref ob), (.int 3), (.ref oo101)])) ?_ fun t k => (by
    refine XS.ifNo X109.here hx rfl (hb hby at_175) rfl ((if0 _ _).trans (feq ((by decide) : ¬ ((1 : Int32) = (0 : Int32)))).1) ?_
    refine XS.aload X109.here hx rfl (hb hby at_178) rfl rfl ?_
    refine XS.iconst X109.here hx rfl (hb hby at_180) ?_
    refine XS.aload X109.here hx rfl (hb hby at_181) rfl rfl ?_
    refine XS.iload X109.here hx rfl (hb hby at_183) rfl ?_
    refine XS.iload X109.here hx rfl (hb hby at_185) rfl ?_
    exact k)
  obtain ⟨_, T110, h110, L110, Lc110, X110, e110, hQ110, l110, st110⟩ := own_cS (own_rmsm l Z a0 hw hst [] (.ref oo101) (3 : Int32) (.ref ob) (1 : Int32) (2 : Int32) h109 n0 Xo109 rfl rfl (by first | assumption | decide | omega | (simp; done) | rfl)) X109 hx hZ hown e109 (own_i hw 113 rfl) (own_i hw 114 rfl) (own_i hw 115 rfl) (own_i hw 116 rfl) (by decide) (g := (mkF m 187 #[sI p0, sI p1, sI p2, sI p3, sI p4, sI p5, sR ob, sR oa, sI va, sI vb, sI 1, sI 3, sR ow, sR oo101, sI 2] [(.int 2), (.int 1), (.ref ob), (.int 3), (.ref oo101)])) rfl (by rw [hml]; rfl) (argsL := [(.ref oo101), (.int 3), (.ref ob), (.int 1), (.int 2)]) (rest := []) (lenOf own_pd13 rfl) rfl rfl (hb hby at_187) (W := 0) (Nat.le_of_eq rfl) (K := 7) (N := 26) rfl rfl (by decide) (by decide) (by decide) (by decide)
  obtain ⟨hv110, N110q, K110⟩ := hQ110
  subst hv110
  have Cs110 : CHr Z consts_1 vm0 h109 vm0 h110 := CHr.keep K110 sf0 Ch109.1
  have Ch110 := Ch109.trans Cs110
  have Xo110 := Xo109.keep K110 all0
  have KK110 := KK109.trans K110 all0
  have N110 := l110 _ N109 N110q
  refine own_to ?_ st110
  refine own_to (V := T110.setTop (mkF m 198 #[sI p0, sI p1, sI p2, sI p3, sI p4, sI p5, sR ob, sR oa, sI va, sI vb, sI 1, sI 3, sR ow, sR oo101, sI 2] [(.int 1)])) ?_ fun t k => (by
    refine XS.ifNo X110.here hx rfl (hb hby at_190) rfl ((if0 _ _).trans (feq ((by decide) : ¬ ((1 : Int32) = (0 : Int32)))).1) ?_
    refine XS.iconst X110.here hx rfl (hb hby at_193) ?_
    refine XS.goto X110.here hx rfl (pc0 := 194) (pc' := 198) rfl (hb hby at_194) (by decide) (by decide) ?_
    exact k)
  exact own_retNH X110 hx hS0 (own_hk e110 (Nat.le_trans (Nat.le_trans (Nat.le_trans (Nat.le_trans (Nat.le_trans hk0 K101.1) K104.1) K106.1) K109.1) K110.1)) (by rw [e110, hh]; exact Ch110.trans (CHv.at X110 hZ (own_hEL hw) Ch110.1)) (t := .boolean) (w := (1 : Int32)) hret (by decide) rfl hlk (hb hby at_198) (by rw [e110]; exact (⟨rfl, N110, KK110⟩)) (by decide) (by decide)
theorem own_sglaw14 (l : Launch) (Z : State) (a0 : Array Value) (hw : ∀ d ∈ tables_1, d.before a0 Z = true) (hst : own_St Z) (p0 p1 p2 p3 p4 p5 : Int32) (h0 : Heap) (n0 : Nat) (ob : Addr) (kb : ClassId) (oa : Addr) (ua : Addr) (va : Int32) (vb : Int32) (c0 : Int32) (c1 : Int32) (c2 : Int32) (c3 : Int32) (ow : Addr)
    {p : Program} {e : Env} {s : State} {m : MethodId} {args : Array Value} {below : List Frame} {meth : Method} {c : Code} (hx : p.tables.exec = Jvm.exec) (hby : c.code = code) (hret : meth.sig.returnType = ret) (hlk : meth.locks = false) (hml : c.maxLocals = 15) (hnm : meth.name = "law") {vm0 : Vm} {k0 : Nat} (hS0 : s.Since vm0 k0) (hh : s.heap = h0) (hZ : Z.Warmed39 (s.setVm vm0).vm) (hown : (s.setVm vm0).vm.findClass "com/example/capstrike/capstrike/TermTextToStringPinLaw" = some m.cls)
    {T0 : State} {locs : List Loc} {h : Heap} (X0 : Stand p l e room_1 (s.setVm vm0) m args below meth c T0 locs 5 20) (e0 : T0.heap = h) (hk0 : k0 ≤ h.size) (Ch0 : CHr Z consts_1 s.vm h0 vm0 h) (N0 : Fr n0 locs) (Xo0 : Old Z n0 h) (KK0 : Keep h0 h []) (l0 : ¬ c0 < 0 ∧ ¬ (255 : Int32) < c0) (l1 : ¬ c1 < 0 ∧ ¬ (255 : Int32) < c1) (l2 : ¬ c2 < 0 ∧ ¬ (255 : Int32) < c2) (l3 : ¬ c3 < 0 ∧ ¬ (255 : Int32) < c3) (hS : own_Str Z h oa ua ([c0, c1, c2, c3] : List Int32)) (hA : Arv Z h ob kb .char (4 : Int32) [(.int c0), (.int c1), (.int c2), (.int c3)] (.int (0 : Int32))) (hE : Exa Z h ow nm1) (f1 : Fld Z h ow nm1 "text" nm2 (.ref oa)) (f2 : Fld Z h ow nm1 "start" "I" (.int 1)) (f3 : Fld Z h ow nm1 "end" "I" (.int 4)) :
    own_Go p e below (own_PostH Z s (own_Qlaw Z p0 p1 p2 p3 p4 p5 h0 n0) room_1.cells room_1.slots) (T0.setTop (mkF m 107 #[sI p0, sI p1, sI p2, sI p3, sI p4, sI p5, sR ob, sR oa, sI va, sI vb, sI 1, sI 4, sR ow, .unset, .unset] [])) := by
  obtain ⟨⟨G1, O2, P5⟩, ⟨G3, O4, rG3⟩, -⟩ := id hst
  refine own_to (V := T0.setTop (mkF m 109 #[sI p0, sI p1, sI p2, sI p3, sI p4, sI p5, sR ob, sR oa, sI va, sI vb, sI 1, sI 4, sR ow, .unset, .unset] [(.ref ow)])) ?_ fun t k => (by
    refine XS.aload X0.here hx rfl (hb hby at_107) rfl rfl ?_
    exact k)
  obtain ⟨_, T101, h101, L101, Lc101, X101, e101, hQ101, l101, st101⟩ := own_cV (own_rmtos14 l Z a0 hw hst [] ow oa ua c0 c1 c2 c3 h n0 Xo0 l0 l1 l2 l3 hE f1 f2 f3 hS) X0 hx hZ hown e0 hE (own_i hw 56 rfl) (own_i hw 57 rfl) (notFace_of_selects (args := #[]) (mvT hZ (own_i hw 59 rfl))) (own_i hw 59 rfl) (own_i hw 58 rfl) (own_i hw 40 rfl) (own_i hw 60 rfl) (by decide) (g := (mkF m 109 #[sI p0, sI p1, sI p2, sI p3, sI p4, sI p5, sR ob, sR oa, sI va, sI vb, sI 1, sI 4, sR ow, .unset, .unset] [(.ref ow)])) rfl (by rw [hml]; rfl) (argsL := []) (rest := []) (lenOf own_pd12 rfl) rfl rfl (hb hby at_109) (W := 0) (Nat.le_of_eq rfl) (K := 7) (N := 27) rfl rfl (by decide) (by decide) (by decide) (by decide)
  obtain ⟨oo101, ou101, hv101, N101q, K101, g101_0⟩ := hQ101
  subst hv101
  have Cs101 : CHr Z consts_1 vm0 h vm0 h101 := CHr.keep K101 sf0 Ch0.1
  have Ch101 := Ch0.trans Cs101
  have Xo101 := Xo0.keep K101 all0
  have KK101 := KK0.trans K101 all0
  have N101 := l101 _ N0 N101q
  refine own_to ?_ st101
  refine own_to (V := T101.setTop (mkF m 123 #[sI p0, sI p1, sI p2, sI p3, sI p4, sI p5, sR ob, sR oa, sI va, sI vb, sI 1, sI 4, sR ow, sR oo101, sI 3] [(.ref oo101)])) ?_ fun t k => (by
    refine XS.astore X101.here hx rfl (hb hby at_112) rfl rfl (l' := #[sI p0, sI p1, sI p2, sI p3, sI p4, sI p5, sR ob, sR oa, sI va, sI vb, sI 1, sI 4, sR ow, sR oo101, .unset]) rfl ?_
    refine XS.iload X101.here hx rfl (hb hby at_114) rfl ?_
    refine XS.iload X101.here hx rfl (hb hby at_116) rfl ?_
    refine XS.isub X101.here hx rfl (hb hby at_118) rfl ?_
    refine XS.istore X101.here hx rfl (hb hby at_119) rfl (l' := #[sI p0, sI p1, sI p2, sI p3, sI p4, sI p5, sR ob, sR oa, sI va, sI vb, sI 1, sI 4, sR ow, sR oo101, sI 3]) rfl ?_
    refine XS.aload X101.here hx rfl (hb hby at_121) rfl rfl ?_
    exact k)
  obtain ⟨sE103, sd103, sN103, sk103, sv103, sV103, sC103, sK103, sc103, sb103, sl103⟩ := id g101_0
  obtain ⟨cq102, kq102, q102a, q102b, q102c⟩ := isOf hZ e101 g101_0.1
  obtain ⟨_, _, ⟨T102, L102, k102, n102⟩, -, X102, ⟨Lc102, hQ102, l102, y102, z102⟩, st102⟩ := X101.virtualBack hx (y := own_mn11) (z := own_mn11) hown (mvT hZ (own_i hw 112 rfl)) (mvT hZ (own_i hw 67 rfl)) (notFace_of_selects (args := #[]) (mvT hZ (own_i hw 69 rfl))) (mvT hZ (own_i hw 69 rfl)) (mvT hZ (own_i hw 68 rfl)) (by decide) (StrChars.Road.lenW (W := 0) hZ (own_hln hw) (kI := 4) (own_i hw 2 rfl) sE103 sV103 sC103 sK103 sc103 sb103 (O2.ext Xo101.2) P5 sl103 (by decide) (by decide)) q102a q102c (g := (mkF m 123 #[sI p0, sI p1, sI p2, sI p3, sI p4, sI p5, sR ob, sR oa, sI va, sI vb, sI 1, sI 4, sR ow, sR oo101, sI 3] [(.ref oo101)])) rfl (by rw [hml]; rfl) (Steps.refl _) (argsL := []) (rest := []) (lenOf own_pd2 rfl) rfl (by show 2 * 0 + _ ≤ _; exact Nat.le_of_eq rfl) (hb hby at_123) (fun _ _ => ⟨rfl, e101, (by decide : 7 + 0 ≤ _), (by decide : 27 + 0 ≤ _)⟩)
  dsimp only [own_R, Pt.U, Pt.locs, Pt.cells, Pt.slots] at X102 l102 y102 z102 st102 hQ102
  subst y102 z102
  obtain ⟨hv102, hL102, hh102⟩ := hQ102
  subst hL102
  have N102 : Fr n0 L102 := by rw [l102]; exact Fr.app N101 (Fr.nil n0)
  subst hv102
  refine own_to ?_ (fun t k => st102.trans k)
  refine own_to (V := T102.setTop (mkF m 142 #[sI p0, sI p1, sI p2, sI p3, sI p4, sI p5, sR ob, sR oa, sI va, sI vb, sI 1, sI 4, sR ow, sR oo101, sI 3] [(.int 3), (.int 1), (.ref ob), (.int 0), (.ref oo101)])) ?_ fun t k => (by
    refine XS.iload X102.here hx rfl (hb hby at_126) rfl ?_
    refine XS.icmpYes X102.here hx rfl (pc0 := 128) (pc' := 133) rfl (hb hby at_128) rfl (teq ((by decide) : (3 : Int32) = (3 : Int32))).1 (by decide) (by decide) ?_
    refine XS.aload X102.here hx rfl (hb hby at_133) rfl rfl ?_
    refine XS.iconst X102.here hx rfl (hb hby at_135) ?_
    refine XS.aload X102.here hx rfl (hb hby at_136) rfl rfl ?_
    refine XS.iload X102.here hx rfl (hb hby at_138) rfl ?_
    refine XS.iload X102.here hx rfl (hb hby at_140) rfl ?_
    exact k)
  have F105 := (hA.keep K101 List.not_mem_nil)
  obtain ⟨_, T104, h104, L104, Lc104, X104, e104, hQ104, l104, st104⟩ := own_cS (own_rmsm310 l Z a0 hw hst [] oo101 ou101 ob kb c0 c1 c2 c3 h101 n0 Xo101 l0 l1 l2 l3 g101_0 F105) X102 hx hZ hown hh102 (own_i hw 113 rfl) (own_i hw 114 rfl) (own_i hw 115 rfl) (own_i hw 116 rfl) (by decide) (g := (mkF m 142 #[sI p0, sI p1, sI p2, sI p3, sI p4, sI p5, sR ob, sR oa, sI va, sI vb, sI 1, sI 4, sR ow, sR oo101, sI 3] [(.int 3), (.int 1), (.ref ob), (.int 0), (.ref oo101)])) rfl (by rw [hml]; rfl) (argsL := [(.ref oo101), (.int 0), (.ref ob), (.int 1), (.int 3)]) (rest := []) (lenOf own_pd13 rfl) rfl rfl (hb hby at_142) (W := 0) (Nat.le_of_eq rfl) (K := 7) (N := 27) rfl rfl (by decide) (by decide) (by decide) (by decide)
  obtain ⟨hv104, N104q, K104⟩ := hQ104
  subst hv104
  have Cs104 : CHr Z consts_1 vm0 h101 vm0 h104 := CHr.keep K104 sf0 Ch101.1
  have Ch104 := Ch101.trans Cs104
  have Xo104 := Xo101.keep K104 all0
  have KK104 := KK101.trans K104 all0
  have N104 := l104 _ N102 N104q
  refine own_to ?_ st104
  refine own_to (V := T104.setTop (mkF m 157 #[sI p0, sI p1, sI p2, sI p3, sI p4, sI p5, sR ob, sR oa, sI va, sI vb, sI 1, sI 4, sR ow, sR oo101, sI 3] [(.int 3), (.int 1), (.ref ob), (.int 1), (.ref oo101)])) ?_ fun t k => (by
    refine XS.ifNo X104.here hx rfl (hb hby at_145) rfl ((if0 _ _).trans (feq ((by decide) : ¬ ((1 : Int32) = (0 : Int32)))).1) ?_
    refine XS.aload X104.here hx rfl (hb hby at_148) rfl rfl ?_
    refine XS.iconst X104.here hx rfl (hb hby at_150) ?_
    refine XS.aload X104.here hx rfl (hb hby at_151) rfl rfl ?_
    refine XS.iload X104.here hx rfl (hb hby at_153) rfl ?_
    refine XS.iload X104.here hx rfl (hb hby at_155) rfl ?_
    exact k)
  have F107 := (g101_0.keep K104 List.not_mem_nil List.not_mem_nil)
  have F108 := (F105.keep K104 List.not_mem_nil)
  obtain ⟨_, T106, h106, L106, Lc106, X106, e106, hQ106, l106, st106⟩ := own_cS (own_rmsm311 l Z a0 hw hst [] oo101 ou101 ob kb c0 c1 c2 c3 h104 n0 Xo104 l0 l1 l2 l3 F107 F108) X104 hx hZ hown e104 (own_i hw 113 rfl) (own_i hw 114 rfl) (own_i hw 115 rfl) (own_i hw 116 rfl) (by decide) (g := (mkF m 157 #[sI p0, sI p1, sI p2, sI p3, sI p4, sI p5, sR ob, sR oa, sI va, sI vb, sI 1, sI 4, sR ow, sR oo101, sI 3] [(.int 3), (.int 1), (.ref ob), (.int 1), (.ref oo101)])) rfl (by rw [hml]; rfl) (argsL := [(.ref oo101), (.int 1), (.ref ob), (.int 1), (.int 3)]) (rest := []) (lenOf own_pd13 rfl) rfl rfl (hb hby at_157) (W := 0) (Nat.le_of_eq rfl) (K := 7) (N := 27) rfl rfl (by decide) (by decide) (by decide) (by decide)
  obtain ⟨hv106, N106q, K106⟩ := hQ106
  subst hv106
  have Cs106 : CHr Z consts_1 vm0 h104 vm0 h106 := CHr.keep K106 sf0 Ch104.1
  have Ch106 := Ch104.trans Cs106
  have Xo106 := Xo104.keep K106 all0
  have KK106 := KK104.trans K106 all0
  have N106 := l106 _ N104 N106q
  refine own_to ?_ st106
  refine own_to (V := T106.setTop (mkF m 172 #[sI p0, sI p1, sI p2, sI p3, sI p4, sI p5, sR ob, sR oa, sI va, sI vb, sI 1, sI 4, sR ow, sR oo101, sI 3] [(.int 3), (.int 1), (.ref ob), (.int 2), (.ref oo101)])) ?_ fun t k => (by
    refine XS.ifNo X106.here hx rfl (hb hby at_160) rfl ((if0 _ _).trans (feq ((by decide) : ¬ ((1 : Int32) = (0 : Int32)))).1) ?_
    refine XS.aload X106.here hx rfl (hb hby at_163) rfl rfl ?_
    refine XS.iconst X106.here hx rfl (hb hby at_165) ?_
    refine XS.aload X106.here hx rfl (hb hby at_166) rfl rfl ?_
    refine XS.iload X106.here hx rfl (hb hby at_168) rfl ?_
    refine XS.iload X106.here hx rfl (hb hby at_170) rfl ?_
    exact k)
  have F110 := (F107.keep K106 List.not_mem_nil List.not_mem_nil)
  have F111 := (F108.keep K106 List.not_mem_nil)
  obtain ⟨_, T109, h109, L109, Lc109, X109, e109, hQ109, l109, st109⟩ := own_cS (own_rmsm312 l Z a0 hw hst [] oo101 ou101 ob kb c0 c1 c2 c3 h106 n0 Xo106 l0 l1 l2 l3 F110 F111) X106 hx hZ hown e106 (own_i hw 113 rfl) (own_i hw 114 rfl) (own_i hw 115 rfl) (own_i hw 116 rfl) (by decide) (g := (mkF m 172 #[sI p0, sI p1, sI p2, sI p3, sI p4, sI p5, sR ob, sR oa, sI va, sI vb, sI 1, sI 4, sR ow, sR oo101, sI 3] [(.int 3), (.int 1), (.ref ob), (.int 2), (.ref oo101)])) rfl (by rw [hml]; rfl) (argsL := [(.ref oo101), (.int 2), (.ref ob), (.int 1), (.int 3)]) (rest := []) (lenOf own_pd13 rfl) rfl rfl (hb hby at_172) (W := 0) (Nat.le_of_eq rfl) (K := 7) (N := 27) rfl rfl (by decide) (by decide) (by decide) (by decide)
  obtain ⟨hv109, N109q, K109⟩ := hQ109
  subst hv109
  have Cs109 : CHr Z consts_1 vm0 h106 vm0 h109 := CHr.keep K109 sf0 Ch106.1
  have Ch109 := Ch106.trans Cs109
  have Xo109 := Xo106.keep K109 all0
  have KK109 := KK106.trans K109 all0
  have N109 := l109 _ N106 N109q
  refine own_to ?_ st109
  refine own_to (V := T109.setTop (mkF m 187 #[sI p0, sI p1, sI p2, sI p3, sI p4, sI p5, sR ob, sR oa, sI va, sI vb, sI 1, sI 4, sR ow, sR oo101, sI 3] [(.int 3), (.int 1), (.ref ob), (.int 3), (.ref oo101)])) ?_ fun t k => (by
    refine XS.ifNo X109.here hx rfl (hb hby at_175) rfl ((if0 _ _).trans (feq ((by decide) : ¬ ((1 : Int32) = (0 : Int32)))).1) ?_
    refine XS.aload X109.here hx rfl (hb hby at_178) rfl rfl ?_
    refine XS.iconst X109.here hx rfl (hb hby at_180) ?_
    refine XS.aload X109.here hx rfl (hb hby at_181) rfl rfl ?_
    refine XS.iload X109.here hx rfl (hb hby at_183) rfl ?_
    refine XS.iload X109.here hx rfl (hb hby at_185) rfl ?_
    exact k)
  obtain ⟨_, T112, h112, L112, Lc112, X112, e112, hQ112, l112, st112⟩ := own_cS (own_rmsm l Z a0 hw hst [] (.ref oo101) (3 : Int32) (.ref ob) (1 : Int32) (3 : Int32) h109 n0 Xo109 rfl rfl (by first | assumption | decide | omega | (simp; done) | rfl)) X109 hx hZ hown e109 (own_i hw 113 rfl) (own_i hw 114 rfl) (own_i hw 115 rfl) (own_i hw 116 rfl) (by decide) (g := (mkF m 187 #[sI p0, sI p1, sI p2, sI p3, sI p4, sI p5, sR ob, sR oa, sI va, sI vb, sI 1, sI 4, sR ow, sR oo101, sI 3] [(.int 3), (.int 1), (.ref ob), (.int 3), (.ref oo101)])) rfl (by rw [hml]; rfl) (argsL := [(.ref oo101), (.int 3), (.ref ob), (.int 1), (.int 3)]) (rest := []) (lenOf own_pd13 rfl) rfl rfl (hb hby at_187) (W := 0) (Nat.le_of_eq rfl) (K := 7) (N := 27) rfl rfl (by decide) (by decide) (by decide) (by decide)
  obtain ⟨hv112, N112q, K112⟩ := hQ112
  subst hv112
  have Cs112 : CHr Z consts_1 vm0 h109 vm0 h112 := CHr.keep K112 sf0 Ch109.1
  have Ch112 := Ch109.trans Cs112
  have Xo112 := Xo109.keep K112 all0
  have KK112 := KK109.trans K112 all0
  have N112 := l112 _ N109 N112q
  refine own_to ?_ st112
  refine own_to (V := T112.setTop (mkF m 198 #[sI p0, sI p1, sI p2, sI p3, sI p4, sI p5, sR ob, sR oa, sI va, sI vb, sI 1, sI 4, sR ow, sR oo101, sI 3] [(.int 1)])) ?_ fun t k => (by
    refine XS.ifNo X112.here hx rfl (hb hby at_190) rfl ((if0 _ _).trans (feq ((by decide) : ¬ ((1 : Int32) = (0 : Int32)))).1) ?_
    refine XS.iconst X112.here hx rfl (hb hby at_193) ?_
    refine XS.goto X112.here hx rfl (pc0 := 194) (pc' := 198) rfl (hb hby at_194) (by decide) (by decide) ?_
    exact k)
  exact own_retNH X112 hx hS0 (own_hk e112 (Nat.le_trans (Nat.le_trans (Nat.le_trans (Nat.le_trans (Nat.le_trans hk0 K101.1) K104.1) K106.1) K109.1) K112.1)) (by rw [e112, hh]; exact Ch112.trans (CHv.at X112 hZ (own_hEL hw) Ch112.1)) (t := .boolean) (w := (1 : Int32)) hret (by decide) rfl hlk (hb hby at_198) (by rw [e112]; exact (⟨rfl, N112, KK112⟩)) (by decide) (by decide)
theorem own_sglaw22 (l : Launch) (Z : State) (a0 : Array Value) (hw : ∀ d ∈ tables_1, d.before a0 Z = true) (hst : own_St Z) (p0 p1 p2 p3 p4 p5 : Int32) (h0 : Heap) (n0 : Nat) (ob : Addr) (kb : ClassId) (oa : Addr) (ua : Addr) (va : Int32) (vb : Int32) (c0 : Int32) (c1 : Int32) (c2 : Int32) (c3 : Int32) (ow : Addr)
    {p : Program} {e : Env} {s : State} {m : MethodId} {args : Array Value} {below : List Frame} {meth : Method} {c : Code} (hx : p.tables.exec = Jvm.exec) (hby : c.code = code) (hret : meth.sig.returnType = ret) (hlk : meth.locks = false) (hml : c.maxLocals = 15) (hnm : meth.name = "law") {vm0 : Vm} {k0 : Nat} (hS0 : s.Since vm0 k0) (hh : s.heap = h0) (hZ : Z.Warmed39 (s.setVm vm0).vm) (hown : (s.setVm vm0).vm.findClass "com/example/capstrike/capstrike/TermTextToStringPinLaw" = some m.cls)
    {T0 : State} {locs : List Loc} {h : Heap} (X0 : Stand p l e room_1 (s.setVm vm0) m args below meth c T0 locs 5 20) (e0 : T0.heap = h) (hk0 : k0 ≤ h.size) (Ch0 : CHr Z consts_1 s.vm h0 vm0 h) (N0 : Fr n0 locs) (Xo0 : Old Z n0 h) (KK0 : Keep h0 h []) (l0 : ¬ c0 < 0 ∧ ¬ (255 : Int32) < c0) (l1 : ¬ c1 < 0 ∧ ¬ (255 : Int32) < c1) (l2 : ¬ c2 < 0 ∧ ¬ (255 : Int32) < c2) (l3 : ¬ c3 < 0 ∧ ¬ (255 : Int32) < c3) (hS : own_Str Z h oa ua ([c0, c1, c2, c3] : List Int32)) (hA : Arv Z h ob kb .char (4 : Int32) [(.int c0), (.int c1), (.int c2), (.int c3)] (.int (0 : Int32))) (hE : Exa Z h ow nm1) (f1 : Fld Z h ow nm1 "text" nm2 (.ref oa)) (f2 : Fld Z h ow nm1 "start" "I" (.int 2)) (f3 : Fld Z h ow nm1 "end" "I" (.int 2)) :
    own_Go p e below (own_PostH Z s (own_Qlaw Z p0 p1 p2 p3 p4 p5 h0 n0) room_1.cells room_1.slots) (T0.setTop (mkF m 107 #[sI p0, sI p1, sI p2, sI p3, sI p4, sI p5, sR ob, sR oa, sI va, sI vb, sI 2, sI 2, sR ow, .unset, .unset] [])) := by
  obtain ⟨⟨G1, O2, P5⟩, ⟨G3, O4, rG3⟩, -⟩ := id hst
  refine own_to (V := T0.setTop (mkF m 109 #[sI p0, sI p1, sI p2, sI p3, sI p4, sI p5, sR ob, sR oa, sI va, sI vb, sI 2, sI 2, sR ow, .unset, .unset] [(.ref ow)])) ?_ fun t k => (by
    refine XS.aload X0.here hx rfl (hb hby at_107) rfl rfl ?_
    exact k)
  obtain ⟨cq101, kq101, q101a, q101b, q101c⟩ := isOf hZ e0 hE
  obtain ⟨_, _, ⟨T101, L101, k101, n101⟩, -, X101', hS101', hg101, ⟨Lc101, hQ101, l101, y101, z101, hC101'⟩, st101⟩ := X0.virtualBackS hx (y := own_mn12) (z := own_mn12) hown (mvT hZ (own_i hw 56 rfl)) (mvT hZ (own_i hw 57 rfl)) (notFace_of_selects (args := #[]) (mvT hZ (own_i hw 59 rfl))) (mvT hZ (own_i hw 59 rfl)) (mvT hZ (own_i hw 58 rfl)) (by decide) (backOfSH (W := 0) (own_rmtos22 l Z a0 hw hst [] ow oa ua c0 c1 c2 c3 h n0 Xo0 l0 l1 l2 l3 hE f1 f2 f3 hS) hZ (own_i hw 60 rfl) (own_i hw 40 rfl) (by decide) (by decide) (own_hEL hw) Ch0.1) q101a q101c (g := (mkF m 109 #[sI p0, sI p1, sI p2, sI p3, sI p4, sI p5, sR ob, sR oa, sI va, sI vb, sI 2, sI 2, sR ow, .unset, .unset] [(.ref ow)])) rfl (by rw [hml]; rfl) (Steps.refl _) (argsL := []) (rest := []) (lenOf own_pd12 rfl) rfl (by show 2 * 0 + _ ≤ _; exact Nat.le_of_eq rfl) (hb hby at_109) (fun _ _ => ⟨rfl, e0, (by decide : 5 + 2 ≤ _), (by decide : 20 + 4 ≤ _)⟩)
  dsimp only [own_R, Pt.U, Pt.locs, Pt.cells, Pt.slots] at X101' hS101' hg101 l101 y101 z101 st101 hQ101 hC101'
  subst y101 z101
  obtain ⟨X101, hS101, hZ101, hown101⟩ := rebS hS0 (own_hk e0 hk0) X101' hS101' hg101 hZ hown
  obtain ⟨oo101, ou101, hv101, N101q, K101, g101_0⟩ := hQ101
  subst hv101
  obtain ⟨h101, e101⟩ : ∃ z, T101.heap = z := ⟨_, rfl⟩
  rw [e101] at K101 g101_0 hC101'
  have Cs101 : CHr Z consts_1 vm0 h T101.vm h101 := hC101'
  have Ch101 := Ch0.trans Cs101
  have Xo101 := Xo0.keep K101 all0
  have KK101 := KK0.trans K101 all0
  have hk101 : T101.heap.size ≤ h101.size := by rw [e101]; exact Nat.le_refl _
  have N101 : Fr n0 L101 := by rw [l101]; exact Fr.app N0 N101q
  refine own_to ?_ (fun t k => st101.trans k)
  refine own_to (V := T101.setTop (mkF m 123 #[sI p0, sI p1, sI p2, sI p3, sI p4, sI p5, sR ob, sR oa, sI va, sI vb, sI 2, sI 2, sR ow, sR oo101, sI 0] [(.ref oo101)])) ?_ fun t k => (by
    refine XS.astore X101.here hx rfl (hb hby at_112) rfl rfl (l' := #[sI p0, sI p1, sI p2, sI p3, sI p4, sI p5, sR ob, sR oa, sI va, sI vb, sI 2, sI 2, sR ow, sR oo101, .unset]) rfl ?_
    refine XS.iload X101.here hx rfl (hb hby at_114) rfl ?_
    refine XS.iload X101.here hx rfl (hb hby at_116) rfl ?_
    refine XS.isub X101.here hx rfl (hb hby at_118) rfl ?_
    refine XS.istore X101.here hx rfl (hb hby at_119) rfl (l' := #[sI p0, sI p1, sI p2, sI p3, sI p4, sI p5, sR ob, sR oa, sI va, sI vb, sI 2, sI 2, sR ow, sR oo101, sI 0]) rfl ?_
    refine XS.aload X101.here hx rfl (hb hby at_121) rfl rfl ?_
    exact k)
  obtain ⟨sE103, sd103, sN103, sk103, sv103, sV103, sC103, sK103, sc103, sb103, sl103⟩ := id g101_0
  obtain ⟨cq102, kq102, q102a, q102b, q102c⟩ := isOf hZ101 e101 g101_0.1
  obtain ⟨_, _, ⟨T102, L102, k102, n102⟩, -, X102, ⟨Lc102, hQ102, l102, y102, z102⟩, st102⟩ := X101.virtualBack hx (y := own_mn11) (z := own_mn11) hown101 (mvT hZ101 (own_i hw 112 rfl)) (mvT hZ101 (own_i hw 67 rfl)) (notFace_of_selects (args := #[]) (mvT hZ101 (own_i hw 69 rfl))) (mvT hZ101 (own_i hw 69 rfl)) (mvT hZ101 (own_i hw 68 rfl)) (by decide) (StrChars.Road.lenW (W := 0) hZ101 (own_hln hw) (kI := 4) (own_i hw 2 rfl) sE103 sV103 sC103 sK103 sc103 sb103 (O2.ext Xo101.2) P5 sl103 (by decide) (by decide)) q102a q102c (g := (mkF m 123 #[sI p0, sI p1, sI p2, sI p3, sI p4, sI p5, sR ob, sR oa, sI va, sI vb, sI 2, sI 2, sR ow, sR oo101, sI 0] [(.ref oo101)])) rfl (by rw [hml]; rfl) (Steps.refl _) (argsL := []) (rest := []) (lenOf own_pd2 rfl) rfl (by show 2 * 0 + _ ≤ _; exact Nat.le_of_eq rfl) (hb hby at_123) (fun _ _ => ⟨rfl, e101, (by decide : 7 + 0 ≤ _), (by decide : 24 + 0 ≤ _)⟩)
  dsimp only [own_R, Pt.U, Pt.locs, Pt.cells, Pt.slots] at X102 l102 y102 z102 st102 hQ102
  subst y102 z102
  obtain ⟨hv102, hL102, hh102⟩ := hQ102
  subst hL102
  have N102 : Fr n0 L102 := by rw [l102]; exact Fr.app N101 (Fr.nil n0)
  subst hv102
  refine own_to ?_ (fun t k => st102.trans k)
  refine own_to (V := T102.setTop (mkF m 142 #[sI p0, sI p1, sI p2, sI p3, sI p4, sI p5, sR ob, sR oa, sI va, sI vb, sI 2, sI 2, sR ow, sR oo101, sI 0] [(.int 0), (.int 2), (.ref ob), (.int 0), (.ref oo101)])) ?_ fun t k => (by
    refine XS.iload X102.here hx rfl (hb hby at_126) rfl ?_
    refine XS.icmpYes X102.here hx rfl (pc0 := 128) (pc' := 133) rfl (hb hby at_128) rfl (teq ((by decide) : (0 : Int32) = (0 : Int32))).1 (by decide) (by decide) ?_
    refine XS.aload X102.here hx rfl (hb hby at_133) rfl rfl ?_
    refine XS.iconst X102.here hx rfl (hb hby at_135) ?_
    refine XS.aload X102.here hx rfl (hb hby at_136) rfl rfl ?_
    refine XS.iload X102.here hx rfl (hb hby at_138) rfl ?_
    refine XS.iload X102.here hx rfl (hb hby at_140) rfl ?_
    exact k)
  obtain ⟨_, T104, h104, L104, Lc104, X104, e104, hQ104, l104, st104⟩ := own_cS (own_rmsm l Z a0 hw hst [] (.ref oo101) (0 : Int32) (.ref ob) (2 : Int32) (0 : Int32) h101 n0 Xo101 rfl rfl (by first | assumption | decide | omega | (simp; done) | rfl)) X102 hx hZ101 hown101 hh102 (own_i hw 113 rfl) (own_i hw 114 rfl) (own_i hw 115 rfl) (own_i hw 116 rfl) (by decide) (g := (mkF m 142 #[sI p0, sI p1, sI p2, sI p3, sI p4, sI p5, sR ob, sR oa, sI va, sI vb, sI 2, sI 2, sR ow, sR oo101, sI 0] [(.int 0), (.int 2), (.ref ob), (.int 0), (.ref oo101)])) rfl (by rw [hml]; rfl) (argsL := [(.ref oo101), (.int 0), (.ref ob), (.int 2), (.int 0)]) (rest := []) (lenOf own_pd13 rfl) rfl rfl (hb hby at_142) (W := 0) (Nat.le_of_eq rfl) (K := 7) (N := 24) rfl rfl (by decide) (by decide) (by decide) (by decide)
  obtain ⟨hv104, N104q, K104⟩ := hQ104
  subst hv104
  have Cs104 : CHr Z consts_1 T101.vm h101 T101.vm h104 := CHr.keep K104 sf0 Ch101.1
  have Ch104 := Ch101.trans Cs104
  have Xo104 := Xo101.keep K104 all0
  have KK104 := KK101.trans K104 all0
  have N104 := l104 _ N102 N104q
  refine own_to ?_ st104
  refine own_to (V := T104.setTop (mkF m 157 #[sI p0, sI p1, sI p2, sI p3, sI p4, sI p5, sR ob, sR oa, sI va, sI vb, sI 2, sI 2, sR ow, sR oo101, sI 0] [(.int 0), (.int 2), (.ref ob), (.int 1), (.ref oo101)])) ?_ fun t k => (by
    refine XS.ifNo X104.here hx rfl (hb hby at_145) rfl ((if0 _ _).trans (feq ((by decide) : ¬ ((1 : Int32) = (0 : Int32)))).1) ?_
    refine XS.aload X104.here hx rfl (hb hby at_148) rfl rfl ?_
    refine XS.iconst X104.here hx rfl (hb hby at_150) ?_
    refine XS.aload X104.here hx rfl (hb hby at_151) rfl rfl ?_
    refine XS.iload X104.here hx rfl (hb hby at_153) rfl ?_
    refine XS.iload X104.here hx rfl (hb hby at_155) rfl ?_
    exact k)
  obtain ⟨_, T105, h105, L105, Lc105, X105, e105, hQ105, l105, st105⟩ := own_cS (own_rmsm l Z a0 hw hst [] (.ref oo101) (1 : Int32) (.ref ob) (2 : Int32) (0 : Int32) h104 n0 Xo104 rfl rfl (by first | assumption | decide | omega | (simp; done) | rfl)) X104 hx hZ101 hown101 e104 (own_i hw 113 rfl) (own_i hw 114 rfl) (own_i hw 115 rfl) (own_i hw 116 rfl) (by decide) (g := (mkF m 157 #[sI p0, sI p1, sI p2, sI p3, sI p4, sI p5, sR ob, sR oa, sI va, sI vb, sI 2, sI 2, sR ow, sR oo101, sI 0] [(.int 0), (.int 2), (.ref ob), (.int 1), (.ref oo101)])) rfl (by rw [hml]; rfl) (argsL := [(.ref oo101), (.int 1), (.ref ob), (.int 2), (.int 0)]) (rest := []) (lenOf own_pd13 rfl) rfl rfl (hb hby at_157) (W := 0) (Nat.le_of_eq rfl) (K := 7) (N := 24) rfl rfl (by decide) (by decide) (by decide) (by decide)
  obtain ⟨hv105, N105q, K105⟩ := hQ105
  subst hv105
  have Cs105 : CHr Z consts_1 T101.vm h104 T101.vm h105 := CHr.keep K105 sf0 Ch104.1
  have Ch105 := Ch104.trans Cs105
  have Xo105 := Xo104.keep K105 all0
  have KK105 := KK104.trans K105 all0
  have N105 := l105 _ N104 N105q
  refine own_to ?_ st105
  refine own_to (V := T105.setTop (mkF m 172 #[sI p0, sI p1, sI p2, sI p3, sI p4, sI p5, sR ob, sR oa, sI va, sI vb, sI 2, sI 2, sR ow, sR oo101, sI 0] [(.int 0), (.int 2), (.ref ob), (.int 2), (.ref oo101)])) ?_ fun t k => (by
    refine XS.ifNo X105.here hx rfl (hb hby at_160) rfl ((if0 _ _).trans (feq ((by decide) : ¬ ((1 : Int32) = (0 : Int32)))).1) ?_
    refine XS.aload X105.here hx rfl (hb hby at_163) rfl rfl ?_
    refine XS.iconst X105.here hx rfl (hb hby at_165) ?_
    refine XS.aload X105.here hx rfl (hb hby at_166) rfl rfl ?_
    refine XS.iload X105.here hx rfl (hb hby at_168) rfl ?_
    refine XS.iload X105.here hx rfl (hb hby at_170) rfl ?_
    exact k)
  obtain ⟨_, T106, h106, L106, Lc106, X106, e106, hQ106, l106, st106⟩ := own_cS (own_rmsm l Z a0 hw hst [] (.ref oo101) (2 : Int32) (.ref ob) (2 : Int32) (0 : Int32) h105 n0 Xo105 rfl rfl (by first | assumption | decide | omega | (simp; done) | rfl)) X105 hx hZ101 hown101 e105 (own_i hw 113 rfl) (own_i hw 114 rfl) (own_i hw 115 rfl) (own_i hw 116 rfl) (by decide) (g := (mkF m 172 #[sI p0, sI p1, sI p2, sI p3, sI p4, sI p5, sR ob, sR oa, sI va, sI vb, sI 2, sI 2, sR ow, sR oo101, sI 0] [(.int 0), (.int 2), (.ref ob), (.int 2), (.ref oo101)])) rfl (by rw [hml]; rfl) (argsL := [(.ref oo101), (.int 2), (.ref ob), (.int 2), (.int 0)]) (rest := []) (lenOf own_pd13 rfl) rfl rfl (hb hby at_172) (W := 0) (Nat.le_of_eq rfl) (K := 7) (N := 24) rfl rfl (by decide) (by decide) (by decide) (by decide)
  obtain ⟨hv106, N106q, K106⟩ := hQ106
  subst hv106
  have Cs106 : CHr Z consts_1 T101.vm h105 T101.vm h106 := CHr.keep K106 sf0 Ch105.1
  have Ch106 := Ch105.trans Cs106
  have Xo106 := Xo105.keep K106 all0
  have KK106 := KK105.trans K106 all0
  have N106 := l106 _ N105 N106q
  refine own_to ?_ st106
  refine own_to (V := T106.setTop (mkF m 187 #[sI p0, sI p1, sI p2, sI p3, sI p4, sI p5, sR ob, sR oa, sI va, sI vb, sI 2, sI 2, sR ow, sR oo101, sI 0] [(.int 0), (.int 2), (.ref ob), (.int 3), (.ref oo101)])) ?_ fun t k => (by
    refine XS.ifNo X106.here hx rfl (hb hby at_175) rfl ((if0 _ _).trans (feq ((by decide) : ¬ ((1 : Int32) = (0 : Int32)))).1) ?_
    refine XS.aload X106.here hx rfl (hb hby at_178) rfl rfl ?_
    refine XS.iconst X106.here hx rfl (hb hby at_180) ?_
    refine XS.aload X106.here hx rfl (hb hby at_181) rfl rfl ?_
    refine XS.iload X106.here hx rfl (hb hby at_183) rfl ?_
    refine XS.iload X106.here hx rfl (hb hby at_185) rfl ?_
    exact k)
  obtain ⟨_, T107, h107, L107, Lc107, X107, e107, hQ107, l107, st107⟩ := own_cS (own_rmsm l Z a0 hw hst [] (.ref oo101) (3 : Int32) (.ref ob) (2 : Int32) (0 : Int32) h106 n0 Xo106 rfl rfl (by first | assumption | decide | omega | (simp; done) | rfl)) X106 hx hZ101 hown101 e106 (own_i hw 113 rfl) (own_i hw 114 rfl) (own_i hw 115 rfl) (own_i hw 116 rfl) (by decide) (g := (mkF m 187 #[sI p0, sI p1, sI p2, sI p3, sI p4, sI p5, sR ob, sR oa, sI va, sI vb, sI 2, sI 2, sR ow, sR oo101, sI 0] [(.int 0), (.int 2), (.ref ob), (.int 3), (.ref oo101)])) rfl (by rw [hml]; rfl) (argsL := [(.ref oo101), (.int 3), (.ref ob), (.int 2), (.int 0)]) (rest := []) (lenOf own_pd13 rfl) rfl rfl (hb hby at_187) (W := 0) (Nat.le_of_eq rfl) (K := 7) (N := 24) rfl rfl (by decide) (by decide) (by decide) (by decide)
  obtain ⟨hv107, N107q, K107⟩ := hQ107
  subst hv107
  have Cs107 : CHr Z consts_1 T101.vm h106 T101.vm h107 := CHr.keep K107 sf0 Ch106.1
  have Ch107 := Ch106.trans Cs107
  have Xo107 := Xo106.keep K107 all0
  have KK107 := KK106.trans K107 all0
  have N107 := l107 _ N106 N107q
  refine own_to ?_ st107
  refine own_to (V := T107.setTop (mkF m 198 #[sI p0, sI p1, sI p2, sI p3, sI p4, sI p5, sR ob, sR oa, sI va, sI vb, sI 2, sI 2, sR ow, sR oo101, sI 0] [(.int 1)])) ?_ fun t k => (by
    refine XS.ifNo X107.here hx rfl (hb hby at_190) rfl ((if0 _ _).trans (feq ((by decide) : ¬ ((1 : Int32) = (0 : Int32)))).1) ?_
    refine XS.iconst X107.here hx rfl (hb hby at_193) ?_
    refine XS.goto X107.here hx rfl (pc0 := 194) (pc' := 198) rfl (hb hby at_194) (by decide) (by decide) ?_
    exact k)
  exact own_retNH X107 hx hS101 (own_hk e107 (Nat.le_trans (Nat.le_trans (Nat.le_trans (Nat.le_trans hk101 K104.1) K105.1) K106.1) K107.1)) (by rw [e107, hh]; exact Ch107.trans (CHv.at X107 hZ101 (own_hEL hw) Ch107.1)) (t := .boolean) (w := (1 : Int32)) hret (by decide) rfl hlk (hb hby at_198) (by rw [e107]; exact (⟨rfl, N107, KK107⟩)) (by decide) (by decide)
theorem own_sglaw23 (l : Launch) (Z : State) (a0 : Array Value) (hw : ∀ d ∈ tables_1, d.before a0 Z = true) (hst : own_St Z) (p0 p1 p2 p3 p4 p5 : Int32) (h0 : Heap) (n0 : Nat) (ob : Addr) (kb : ClassId) (oa : Addr) (ua : Addr) (va : Int32) (vb : Int32) (c0 : Int32) (c1 : Int32) (c2 : Int32) (c3 : Int32) (ow : Addr)
    {p : Program} {e : Env} {s : State} {m : MethodId} {args : Array Value} {below : List Frame} {meth : Method} {c : Code} (hx : p.tables.exec = Jvm.exec) (hby : c.code = code) (hret : meth.sig.returnType = ret) (hlk : meth.locks = false) (hml : c.maxLocals = 15) (hnm : meth.name = "law") {vm0 : Vm} {k0 : Nat} (hS0 : s.Since vm0 k0) (hh : s.heap = h0) (hZ : Z.Warmed39 (s.setVm vm0).vm) (hown : (s.setVm vm0).vm.findClass "com/example/capstrike/capstrike/TermTextToStringPinLaw" = some m.cls)
    {T0 : State} {locs : List Loc} {h : Heap} (X0 : Stand p l e room_1 (s.setVm vm0) m args below meth c T0 locs 5 20) (e0 : T0.heap = h) (hk0 : k0 ≤ h.size) (Ch0 : CHr Z consts_1 s.vm h0 vm0 h) (N0 : Fr n0 locs) (Xo0 : Old Z n0 h) (KK0 : Keep h0 h []) (l0 : ¬ c0 < 0 ∧ ¬ (255 : Int32) < c0) (l1 : ¬ c1 < 0 ∧ ¬ (255 : Int32) < c1) (l2 : ¬ c2 < 0 ∧ ¬ (255 : Int32) < c2) (l3 : ¬ c3 < 0 ∧ ¬ (255 : Int32) < c3) (hS : own_Str Z h oa ua ([c0, c1, c2, c3] : List Int32)) (hA : Arv Z h ob kb .char (4 : Int32) [(.int c0), (.int c1), (.int c2), (.int c3)] (.int (0 : Int32))) (hE : Exa Z h ow nm1) (f1 : Fld Z h ow nm1 "text" nm2 (.ref oa)) (f2 : Fld Z h ow nm1 "start" "I" (.int 2)) (f3 : Fld Z h ow nm1 "end" "I" (.int 3)) :
    own_Go p e below (own_PostH Z s (own_Qlaw Z p0 p1 p2 p3 p4 p5 h0 n0) room_1.cells room_1.slots) (T0.setTop (mkF m 107 #[sI p0, sI p1, sI p2, sI p3, sI p4, sI p5, sR ob, sR oa, sI va, sI vb, sI 2, sI 3, sR ow, .unset, .unset] [])) := by
  obtain ⟨⟨G1, O2, P5⟩, ⟨G3, O4, rG3⟩, -⟩ := id hst
  refine own_to (V := T0.setTop (mkF m 109 #[sI p0, sI p1, sI p2, sI p3, sI p4, sI p5, sR ob, sR oa, sI va, sI vb, sI 2, sI 3, sR ow, .unset, .unset] [(.ref ow)])) ?_ fun t k => (by
    refine XS.aload X0.here hx rfl (hb hby at_107) rfl rfl ?_
    exact k)
  obtain ⟨_, T101, h101, L101, Lc101, X101, e101, hQ101, l101, st101⟩ := own_cV (own_rmtos23 l Z a0 hw hst [] ow oa ua c0 c1 c2 c3 h n0 Xo0 l0 l1 l2 l3 hE f1 f2 f3 hS) X0 hx hZ hown e0 hE (own_i hw 56 rfl) (own_i hw 57 rfl) (notFace_of_selects (args := #[]) (mvT hZ (own_i hw 59 rfl))) (own_i hw 59 rfl) (own_i hw 58 rfl) (own_i hw 40 rfl) (own_i hw 60 rfl) (by decide) (g := (mkF m 109 #[sI p0, sI p1, sI p2, sI p3, sI p4, sI p5, sR ob, sR oa, sI va, sI vb, sI 2, sI 3, sR ow, .unset, .unset] [(.ref ow)])) rfl (by rw [hml]; rfl) (argsL := []) (rest := []) (lenOf own_pd12 rfl) rfl rfl (hb hby at_109) (W := 0) (Nat.le_of_eq rfl) (K := 7) (N := 25) rfl rfl (by decide) (by decide) (by decide) (by decide)
  obtain ⟨oo101, ou101, hv101, N101q, K101, g101_0⟩ := hQ101
  subst hv101
  have Cs101 : CHr Z consts_1 vm0 h vm0 h101 := CHr.keep K101 sf0 Ch0.1
  have Ch101 := Ch0.trans Cs101
  have Xo101 := Xo0.keep K101 all0
  have KK101 := KK0.trans K101 all0
  have N101 := l101 _ N0 N101q
  refine own_to ?_ st101
  refine own_to (V := T101.setTop (mkF m 123 #[sI p0, sI p1, sI p2, sI p3, sI p4, sI p5, sR ob, sR oa, sI va, sI vb, sI 2, sI 3, sR ow, sR oo101, sI 1] [(.ref oo101)])) ?_ fun t k => (by
    refine XS.astore X101.here hx rfl (hb hby at_112) rfl rfl (l' := #[sI p0, sI p1, sI p2, sI p3, sI p4, sI p5, sR ob, sR oa, sI va, sI vb, sI 2, sI 3, sR ow, sR oo101, .unset]) rfl ?_
    refine XS.iload X101.here hx rfl (hb hby at_114) rfl ?_
    refine XS.iload X101.here hx rfl (hb hby at_116) rfl ?_
    refine XS.isub X101.here hx rfl (hb hby at_118) rfl ?_
    refine XS.istore X101.here hx rfl (hb hby at_119) rfl (l' := #[sI p0, sI p1, sI p2, sI p3, sI p4, sI p5, sR ob, sR oa, sI va, sI vb, sI 2, sI 3, sR ow, sR oo101, sI 1]) rfl ?_
    refine XS.aload X101.here hx rfl (hb hby at_121) rfl rfl ?_
    exact k)
  obtain ⟨sE103, sd103, sN103, sk103, sv103, sV103, sC103, sK103, sc103, sb103, sl103⟩ := id g101_0
  obtain ⟨cq102, kq102, q102a, q102b, q102c⟩ := isOf hZ e101 g101_0.1
  obtain ⟨_, _, ⟨T102, L102, k102, n102⟩, -, X102, ⟨Lc102, hQ102, l102, y102, z102⟩, st102⟩ := X101.virtualBack hx (y := own_mn11) (z := own_mn11) hown (mvT hZ (own_i hw 112 rfl)) (mvT hZ (own_i hw 67 rfl)) (notFace_of_selects (args := #[]) (mvT hZ (own_i hw 69 rfl))) (mvT hZ (own_i hw 69 rfl)) (mvT hZ (own_i hw 68 rfl)) (by decide) (StrChars.Road.lenW (W := 0) hZ (own_hln hw) (kI := 4) (own_i hw 2 rfl) sE103 sV103 sC103 sK103 sc103 sb103 (O2.ext Xo101.2) P5 sl103 (by decide) (by decide)) q102a q102c (g := (mkF m 123 #[sI p0, sI p1, sI p2, sI p3, sI p4, sI p5, sR ob, sR oa, sI va, sI vb, sI 2, sI 3, sR ow, sR oo101, sI 1] [(.ref oo101)])) rfl (by rw [hml]; rfl) (Steps.refl _) (argsL := []) (rest := []) (lenOf own_pd2 rfl) rfl (by show 2 * 0 + _ ≤ _; exact Nat.le_of_eq rfl) (hb hby at_123) (fun _ _ => ⟨rfl, e101, (by decide : 7 + 0 ≤ _), (by decide : 25 + 0 ≤ _)⟩)
  dsimp only [own_R, Pt.U, Pt.locs, Pt.cells, Pt.slots] at X102 l102 y102 z102 st102 hQ102
  subst y102 z102
  obtain ⟨hv102, hL102, hh102⟩ := hQ102
  subst hL102
  have N102 : Fr n0 L102 := by rw [l102]; exact Fr.app N101 (Fr.nil n0)
  subst hv102
  refine own_to ?_ (fun t k => st102.trans k)
  refine own_to (V := T102.setTop (mkF m 142 #[sI p0, sI p1, sI p2, sI p3, sI p4, sI p5, sR ob, sR oa, sI va, sI vb, sI 2, sI 3, sR ow, sR oo101, sI 1] [(.int 1), (.int 2), (.ref ob), (.int 0), (.ref oo101)])) ?_ fun t k => (by
    refine XS.iload X102.here hx rfl (hb hby at_126) rfl ?_
    refine XS.icmpYes X102.here hx rfl (pc0 := 128) (pc' := 133) rfl (hb hby at_128) rfl (teq ((by decide) : (1 : Int32) = (1 : Int32))).1 (by decide) (by decide) ?_
    refine XS.aload X102.here hx rfl (hb hby at_133) rfl rfl ?_
    refine XS.iconst X102.here hx rfl (hb hby at_135) ?_
    refine XS.aload X102.here hx rfl (hb hby at_136) rfl rfl ?_
    refine XS.iload X102.here hx rfl (hb hby at_138) rfl ?_
    refine XS.iload X102.here hx rfl (hb hby at_140) rfl ?_
    exact k)
  have F105 := (hA.keep K101 List.not_mem_nil)
  obtain ⟨_, T104, h104, L104, Lc104, X104, e104, hQ104, l104, st104⟩ := own_cS (own_rmsm120 l Z a0 hw hst [] oo101 ou101 ob kb c0 c1 c2 c3 h101 n0 Xo101 l0 l1 l2 l3 g101_0 F105) X102 hx hZ hown hh102 (own_i hw 113 rfl) (own_i hw 114 rfl) (own_i hw 115 rfl) (own_i hw 116 rfl) (by decide) (g := (mkF m 142 #[sI p0, sI p1, sI p2, sI p3, sI p4, sI p5, sR ob, sR oa, sI va, sI vb, sI 2, sI 3, sR ow, sR oo101, sI 1] [(.int 1), (.int 2), (.ref ob), (.int 0), (.ref oo101)])) rfl (by rw [hml]; rfl) (argsL := [(.ref oo101), (.int 0), (.ref ob), (.int 2), (.int 1)]) (rest := []) (lenOf own_pd13 rfl) rfl rfl (hb hby at_142) (W := 0) (Nat.le_of_eq rfl) (K := 7) (N := 25) rfl rfl (by decide) (by decide) (by decide) (by decide)
  obtain ⟨hv104, N104q, K104⟩ := hQ104
  subst hv104
  have Cs104 : CHr Z consts_1 vm0 h101 vm0 h104 := CHr.keep K104 sf0 Ch101.1
  have Ch104 := Ch101.trans Cs104
  have Xo104 := Xo101.keep K104 all0
  have KK104 := KK101.trans K104 all0
  have N104 := l104 _ N102 N104q
  refine own_to ?_ st104
  refine own_to (V := T104.setTop (mkF m 157 #[sI p0, sI p1, sI p2, sI p3, sI p4, sI p5, sR ob, sR oa, sI va, sI vb, sI 2, sI 3, sR ow, sR oo101, sI 1] [(.int 1), (.int 2), (.ref ob), (.int 1), (.ref oo101)])) ?_ fun t k => (by
    refine XS.ifNo X104.here hx rfl (hb hby at_145) rfl ((if0 _ _).trans (feq ((by decide) : ¬ ((1 : Int32) = (0 : Int32)))).1) ?_
    refine XS.aload X104.here hx rfl (hb hby at_148) rfl rfl ?_
    refine XS.iconst X104.here hx rfl (hb hby at_150) ?_
    refine XS.aload X104.here hx rfl (hb hby at_151) rfl rfl ?_
    refine XS.iload X104.here hx rfl (hb hby at_153) rfl ?_
    refine XS.iload X104.here hx rfl (hb hby at_155) rfl ?_
    exact k)
  obtain ⟨_, T106, h106, L106, Lc106, X106, e106, hQ106, l106, st106⟩ := own_cS (own_rmsm l Z a0 hw hst [] (.ref oo101) (1 : Int32) (.ref ob) (2 : Int32) (1 : Int32) h104 n0 Xo104 rfl rfl (by first | assumption | decide | omega | (simp; done) | rfl)) X104 hx hZ hown e104 (own_i hw 113 rfl) (own_i hw 114 rfl) (own_i hw 115 rfl) (own_i hw 116 rfl) (by decide) (g := (mkF m 157 #[sI p0, sI p1, sI p2, sI p3, sI p4, sI p5, sR ob, sR oa, sI va, sI vb, sI 2, sI 3, sR ow, sR oo101, sI 1] [(.int 1), (.int 2), (.ref ob), (.int 1), (.ref oo101)])) rfl (by rw [hml]; rfl) (argsL := [(.ref oo101), (.int 1), (.ref ob), (.int 2), (.int 1)]) (rest := []) (lenOf own_pd13 rfl) rfl rfl (hb hby at_157) (W := 0) (Nat.le_of_eq rfl) (K := 7) (N := 25) rfl rfl (by decide) (by decide) (by decide) (by decide)
  obtain ⟨hv106, N106q, K106⟩ := hQ106
  subst hv106
  have Cs106 : CHr Z consts_1 vm0 h104 vm0 h106 := CHr.keep K106 sf0 Ch104.1
  have Ch106 := Ch104.trans Cs106
  have Xo106 := Xo104.keep K106 all0
  have KK106 := KK104.trans K106 all0
  have N106 := l106 _ N104 N106q
  refine own_to ?_ st106
  refine own_to (V := T106.setTop (mkF m 172 #[sI p0, sI p1, sI p2, sI p3, sI p4, sI p5, sR ob, sR oa, sI va, sI vb, sI 2, sI 3, sR ow, sR oo101, sI 1] [(.int 1), (.int 2), (.ref ob), (.int 2), (.ref oo101)])) ?_ fun t k => (by
    refine XS.ifNo X106.here hx rfl (hb hby at_160) rfl ((if0 _ _).trans (feq ((by decide) : ¬ ((1 : Int32) = (0 : Int32)))).1) ?_
    refine XS.aload X106.here hx rfl (hb hby at_163) rfl rfl ?_
    refine XS.iconst X106.here hx rfl (hb hby at_165) ?_
    refine XS.aload X106.here hx rfl (hb hby at_166) rfl rfl ?_
    refine XS.iload X106.here hx rfl (hb hby at_168) rfl ?_
    refine XS.iload X106.here hx rfl (hb hby at_170) rfl ?_
    exact k)
  obtain ⟨_, T107, h107, L107, Lc107, X107, e107, hQ107, l107, st107⟩ := own_cS (own_rmsm l Z a0 hw hst [] (.ref oo101) (2 : Int32) (.ref ob) (2 : Int32) (1 : Int32) h106 n0 Xo106 rfl rfl (by first | assumption | decide | omega | (simp; done) | rfl)) X106 hx hZ hown e106 (own_i hw 113 rfl) (own_i hw 114 rfl) (own_i hw 115 rfl) (own_i hw 116 rfl) (by decide) (g := (mkF m 172 #[sI p0, sI p1, sI p2, sI p3, sI p4, sI p5, sR ob, sR oa, sI va, sI vb, sI 2, sI 3, sR ow, sR oo101, sI 1] [(.int 1), (.int 2), (.ref ob), (.int 2), (.ref oo101)])) rfl (by rw [hml]; rfl) (argsL := [(.ref oo101), (.int 2), (.ref ob), (.int 2), (.int 1)]) (rest := []) (lenOf own_pd13 rfl) rfl rfl (hb hby at_172) (W := 0) (Nat.le_of_eq rfl) (K := 7) (N := 25) rfl rfl (by decide) (by decide) (by decide) (by decide)
  obtain ⟨hv107, N107q, K107⟩ := hQ107
  subst hv107
  have Cs107 : CHr Z consts_1 vm0 h106 vm0 h107 := CHr.keep K107 sf0 Ch106.1
  have Ch107 := Ch106.trans Cs107
  have Xo107 := Xo106.keep K107 all0
  have KK107 := KK106.trans K107 all0
  have N107 := l107 _ N106 N107q
  refine own_to ?_ st107
  refine own_to (V := T107.setTop (mkF m 187 #[sI p0, sI p1, sI p2, sI p3, sI p4, sI p5, sR ob, sR oa, sI va, sI vb, sI 2, sI 3, sR ow, sR oo101, sI 1] [(.int 1), (.int 2), (.ref ob), (.int 3), (.ref oo101)])) ?_ fun t k => (by
    refine XS.ifNo X107.here hx rfl (hb hby at_175) rfl ((if0 _ _).trans (feq ((by decide) : ¬ ((1 : Int32) = (0 : Int32)))).1) ?_
    refine XS.aload X107.here hx rfl (hb hby at_178) rfl rfl ?_
    refine XS.iconst X107.here hx rfl (hb hby at_180) ?_
    refine XS.aload X107.here hx rfl (hb hby at_181) rfl rfl ?_
    refine XS.iload X107.here hx rfl (hb hby at_183) rfl ?_
    refine XS.iload X107.here hx rfl (hb hby at_185) rfl ?_
    exact k)
  obtain ⟨_, T108, h108, L108, Lc108, X108, e108, hQ108, l108, st108⟩ := own_cS (own_rmsm l Z a0 hw hst [] (.ref oo101) (3 : Int32) (.ref ob) (2 : Int32) (1 : Int32) h107 n0 Xo107 rfl rfl (by first | assumption | decide | omega | (simp; done) | rfl)) X107 hx hZ hown e107 (own_i hw 113 rfl) (own_i hw 114 rfl) (own_i hw 115 rfl) (own_i hw 116 rfl) (by decide) (g := (mkF m 187 #[sI p0, sI p1, sI p2, sI p3, sI p4, sI p5, sR ob, sR oa, sI va, sI vb, sI 2, sI 3, sR ow, sR oo101, sI 1] [(.int 1), (.int 2), (.ref ob), (.int 3), (.ref oo101)])) rfl (by rw [hml]; rfl) (argsL := [(.ref oo101), (.int 3), (.ref ob), (.int 2), (.int 1)]) (rest := []) (lenOf own_pd13 rfl) rfl rfl (hb hby at_187) (W := 0) (Nat.le_of_eq rfl) (K := 7) (N := 25) rfl rfl (by decide) (by decide) (by decide) (by decide)
  obtain ⟨hv108, N108q, K108⟩ := hQ108
  subst hv108
  have Cs108 : CHr Z consts_1 vm0 h107 vm0 h108 := CHr.keep K108 sf0 Ch107.1
  have Ch108 := Ch107.trans Cs108
  have Xo108 := Xo107.keep K108 all0
  have KK108 := KK107.trans K108 all0
  have N108 := l108 _ N107 N108q
  refine own_to ?_ st108
  refine own_to (V := T108.setTop (mkF m 198 #[sI p0, sI p1, sI p2, sI p3, sI p4, sI p5, sR ob, sR oa, sI va, sI vb, sI 2, sI 3, sR ow, sR oo101, sI 1] [(.int 1)])) ?_ fun t k => (by
    refine XS.ifNo X108.here hx rfl (hb hby at_190) rfl ((if0 _ _).trans (feq ((by decide) : ¬ ((1 : Int32) = (0 : Int32)))).1) ?_
    refine XS.iconst X108.here hx rfl (hb hby at_193) ?_
    refine XS.goto X108.here hx rfl (pc0 := 194) (pc' := 198) rfl (hb hby at_194) (by decide) (by decide) ?_
    exact k)
  exact own_retNH X108 hx hS0 (own_hk e108 (Nat.le_trans (Nat.le_trans (Nat.le_trans (Nat.le_trans (Nat.le_trans hk0 K101.1) K104.1) K106.1) K107.1) K108.1)) (by rw [e108, hh]; exact Ch108.trans (CHv.at X108 hZ (own_hEL hw) Ch108.1)) (t := .boolean) (w := (1 : Int32)) hret (by decide) rfl hlk (hb hby at_198) (by rw [e108]; exact (⟨rfl, N108, KK108⟩)) (by decide) (by decide)
theorem own_sglaw24 (l : Launch) (Z : State) (a0 : Array Value) (hw : ∀ d ∈ tables_1, d.before a0 Z = true) (hst : own_St Z) (p0 p1 p2 p3 p4 p5 : Int32) (h0 : Heap) (n0 : Nat) (ob : Addr) (kb : ClassId) (oa : Addr) (ua : Addr) (va : Int32) (vb : Int32) (c0 : Int32) (c1 : Int32) (c2 : Int32) (c3 : Int32) (ow : Addr)
    {p : Program} {e : Env} {s : State} {m : MethodId} {args : Array Value} {below : List Frame} {meth : Method} {c : Code} (hx : p.tables.exec = Jvm.exec) (hby : c.code = code) (hret : meth.sig.returnType = ret) (hlk : meth.locks = false) (hml : c.maxLocals = 15) (hnm : meth.name = "law") {vm0 : Vm} {k0 : Nat} (hS0 : s.Since vm0 k0) (hh : s.heap = h0) (hZ : Z.Warmed39 (s.setVm vm0).vm) (hown : (s.setVm vm0).vm.findClass "com/example/capstrike/capstrike/TermTextToStringPinLaw" = some m.cls)
    {T0 : State} {locs : List Loc} {h : Heap} (X0 : Stand p l e room_1 (s.setVm vm0) m args below meth c T0 locs 5 20) (e0 : T0.heap = h) (hk0 : k0 ≤ h.size) (Ch0 : CHr Z consts_1 s.vm h0 vm0 h) (N0 : Fr n0 locs) (Xo0 : Old Z n0 h) (KK0 : Keep h0 h []) (l0 : ¬ c0 < 0 ∧ ¬ (255 : Int32) < c0) (l1 : ¬ c1 < 0 ∧ ¬ (255 : Int32) < c1) (l2 : ¬ c2 < 0 ∧ ¬ (255 : Int32) < c2) (l3 : ¬ c3 < 0 ∧ ¬ (255 : Int32) < c3) (hS : own_Str Z h oa ua ([c0, c1, c2, c3] : List Int32)) (hA : Arv Z h ob kb .char (4 : Int32) [(.int c0), (.int c1), (.int c2), (.int c3)] (.int (0 : Int32))) (hE : Exa Z h ow nm1) (f1 : Fld Z h ow nm1 "text" nm2 (.ref oa)) (f2 : Fld Z h ow nm1 "start" "I" (.int 2)) (f3 : Fld Z h ow nm1 "end" "I" (.int 4)) :
    own_Go p e below (own_PostH Z s (own_Qlaw Z p0 p1 p2 p3 p4 p5 h0 n0) room_1.cells room_1.slots) (T0.setTop (mkF m 107 #[sI p0, sI p1, sI p2, sI p3, sI p4, sI p5, sR ob, sR oa, sI va, sI vb, sI 2, sI 4, sR ow, .unset, .unset] [])) := by
  obtain ⟨⟨G1, O2, P5⟩, ⟨G3, O4, rG3⟩, -⟩ := id hst
  refine own_to (V := T0.setTop (mkF m 109 #[sI p0, sI p1, sI p2, sI p3, sI p4, sI p5, sR ob, sR oa, sI va, sI vb, sI 2, sI 4, sR ow, .unset, .unset] [(.ref ow)])) ?_ fun t k => (by
    refine XS.aload X0.here hx rfl (hb hby at_107) rfl rfl ?_
    exact k)
  obtain ⟨_, T101, h101, L101, Lc101, X101, e101, hQ101, l101, st101⟩ := own_cV (own_rmtos24 l Z a0 hw hst [] ow oa ua c0 c1 c2 c3 h n0 Xo0 l0 l1 l2 l3 hE f1 f2 f3 hS) X0 hx hZ hown e0 hE (own_i hw 56 rfl) (own_i hw 57 rfl) (notFace_of_selects (args := #[]) (mvT hZ (own_i hw 59 rfl))) (own_i hw 59 rfl) (own_i hw 58 rfl) (own_i hw 40 rfl) (own_i hw 60 rfl) (by decide) (g := (mkF m 109 #[sI p0, sI p1, sI p2, sI p3, sI p4, sI p5, sR ob, sR oa, sI va, sI vb, sI 2, sI 4, sR ow, .unset, .unset] [(.ref ow)])) rfl (by rw [hml]; rfl) (argsL := []) (rest := []) (lenOf own_pd12 rfl) rfl rfl (hb hby at_109) (W := 0) (Nat.le_of_eq rfl) (K := 7) (N := 26) rfl rfl (by decide) (by decide) (by decide) (by decide)
  obtain ⟨oo101, ou101, hv101, N101q, K101, g101_0⟩ := hQ101
  subst hv101
  have Cs101 : CHr Z consts_1 vm0 h vm0 h101 := CHr.keep K101 sf0 Ch0.1
  have Ch101 := Ch0.trans Cs101
  have Xo101 := Xo0.keep K101 all0
  have KK101 := KK0.trans K101 all0
  have N101 := l101 _ N0 N101q
  refine own_to ?_ st101
  refine own_to (V := T101.setTop (mkF m 123 #[sI p0, sI p1, sI p2, sI p3, sI p4, sI p5, sR ob, sR oa, sI va, sI vb, sI 2, sI 4, sR ow, sR oo101, sI 2] [(.ref oo101)])) ?_ fun t k => (by
    refine XS.astore X101.here hx rfl (hb hby at_112) rfl rfl (l' := #[sI p0, sI p1, sI p2, sI p3, sI p4, sI p5, sR ob, sR oa, sI va, sI vb, sI 2, sI 4, sR ow, sR oo101, .unset]) rfl ?_
    refine XS.iload X101.here hx rfl (hb hby at_114) rfl ?_
    refine XS.iload X101.here hx rfl (hb hby at_116) rfl ?_
    refine XS.isub X101.here hx rfl (hb hby at_118) rfl ?_
    refine XS.istore X101.here hx rfl (hb hby at_119) rfl (l' := #[sI p0, sI p1, sI p2, sI p3, sI p4, sI p5, sR ob, sR oa, sI va, sI vb, sI 2, sI 4, sR ow, sR oo101, sI 2]) rfl ?_
    refine XS.aload X101.here hx rfl (hb hby at_121) rfl rfl ?_
    exact k)
  obtain ⟨sE103, sd103, sN103, sk103, sv103, sV103, sC103, sK103, sc103, sb103, sl103⟩ := id g101_0
  obtain ⟨cq102, kq102, q102a, q102b, q102c⟩ := isOf hZ e101 g101_0.1
  obtain ⟨_, _, ⟨T102, L102, k102, n102⟩, -, X102, ⟨Lc102, hQ102, l102, y102, z102⟩, st102⟩ := X101.virtualBack hx (y := own_mn11) (z := own_mn11) hown (mvT hZ (own_i hw 112 rfl)) (mvT hZ (own_i hw 67 rfl)) (notFace_of_selects (args := #[]) (mvT hZ (own_i hw 69 rfl))) (mvT hZ (own_i hw 69 rfl)) (mvT hZ (own_i hw 68 rfl)) (by decide) (StrChars.Road.lenW (W := 0) hZ (own_hln hw) (kI := 4) (own_i hw 2 rfl) sE103 sV103 sC103 sK103 sc103 sb103 (O2.ext Xo101.2) P5 sl103 (by decide) (by decide)) q102a q102c (g := (mkF m 123 #[sI p0, sI p1, sI p2, sI p3, sI p4, sI p5, sR ob, sR oa, sI va, sI vb, sI 2, sI 4, sR ow, sR oo101, sI 2] [(.ref oo101)])) rfl (by rw [hml]; rfl) (Steps.refl _) (argsL := []) (rest := []) (lenOf own_pd2 rfl) rfl (by show 2 * 0 + _ ≤ _; exact Nat.le_of_eq rfl) (hb hby at_123) (fun _ _ => ⟨rfl, e101, (by decide : 7 + 0 ≤ _), (by decide : 26 + 0 ≤ _)⟩)
  dsimp only [own_R, Pt.U, Pt.locs, Pt.cells, Pt.slots] at X102 l102 y102 z102 st102 hQ102
  subst y102 z102
  obtain ⟨hv102, hL102, hh102⟩ := hQ102
  subst hL102
  have N102 : Fr n0 L102 := by rw [l102]; exact Fr.app N101 (Fr.nil n0)
  subst hv102
  refine own_to ?_ (fun t k => st102.trans k)
  refine own_to (V := T102.setTop (mkF m 142 #[sI p0, sI p1, sI p2, sI p3, sI p4, sI p5, sR ob, sR oa, sI va, sI vb, sI 2, sI 4, sR ow, sR oo101, sI 2] [(.int 2), (.int 2), (.ref ob), (.int 0), (.ref oo101)])) ?_ fun t k => (by
    refine XS.iload X102.here hx rfl (hb hby at_126) rfl ?_
    refine XS.icmpYes X102.here hx rfl (pc0 := 128) (pc' := 133) rfl (hb hby at_128) rfl (teq ((by decide) : (2 : Int32) = (2 : Int32))).1 (by decide) (by decide) ?_
    refine XS.aload X102.here hx rfl (hb hby at_133) rfl rfl ?_
    refine XS.iconst X102.here hx rfl (hb hby at_135) ?_
    refine XS.aload X102.here hx rfl (hb hby at_136) rfl rfl ?_
    refine XS.iload X102.here hx rfl (hb hby at_138) rfl ?_
    refine XS.iload X102.here hx rfl (hb hby at_140) rfl ?_
    exact k)
  have F105 := (hA.keep K101 List.not_mem_nil)
  obtain ⟨_, T104, h104, L104, Lc104, X104, e104, hQ104, l104, st104⟩ := own_cS (own_rmsm220 l Z a0 hw hst [] oo101 ou101 ob kb c0 c1 c2 c3 h101 n0 Xo101 l0 l1 l2 l3 g101_0 F105) X102 hx hZ hown hh102 (own_i hw 113 rfl) (own_i hw 114 rfl) (own_i hw 115 rfl) (own_i hw 116 rfl) (by decide) (g := (mkF m 142 #[sI p0, sI p1, sI p2, sI p3, sI p4, sI p5, sR ob, sR oa, sI va, sI vb, sI 2, sI 4, sR ow, sR oo101, sI 2] [(.int 2), (.int 2), (.ref ob), (.int 0), (.ref oo101)])) rfl (by rw [hml]; rfl) (argsL := [(.ref oo101), (.int 0), (.ref ob), (.int 2), (.int 2)]) (rest := []) (lenOf own_pd13 rfl) rfl rfl (hb hby at_142) (W := 0) (Nat.le_of_eq rfl) (K := 7) (N := 26) rfl rfl (by decide) (by decide) (by decide) (by decide)
  obtain ⟨hv104, N104q, K104⟩ := hQ104
  subst hv104
  have Cs104 : CHr Z consts_1 vm0 h101 vm0 h104 := CHr.keep K104 sf0 Ch101.1
  have Ch104 := Ch101.trans Cs104
  have Xo104 := Xo101.keep K104 all0
  have KK104 := KK101.trans K104 all0
  have N104 := l104 _ N102 N104q
  refine own_to ?_ st104
  refine own_to (V := T104.setTop (mkF m 157 #[sI p0, sI p1, sI p2, sI p3, sI p4, sI p5, sR ob, sR oa, sI va, sI vb, sI 2, sI 4, sR ow, sR oo101, sI 2] [(.int 2), (.int 2), (.ref ob), (.int 1), (.ref oo101)])) ?_ fun t k => (by
    refine XS.ifNo X104.here hx rfl (hb hby at_145) rfl ((if0 _ _).trans (feq ((by decide) : ¬ ((1 : Int32) = (0 : Int32)))).1) ?_
    refine XS.aload X104.here hx rfl (hb hby at_148) rfl rfl ?_
    refine XS.iconst X104.here hx rfl (hb hby at_150) ?_
    refine XS.aload X104.here hx rfl (hb hby at_151) rfl rfl ?_
    refine XS.iload X104.here hx rfl (hb hby at_153) rfl ?_
    refine XS.iload X104.here hx rfl (hb hby at_155) rfl ?_
    exact k)
  have F107 := (g101_0.keep K104 List.not_mem_nil List.not_mem_nil)
  have F108 := (F105.keep K104 List.not_mem_nil)
  obtain ⟨_, T106, h106, L106, Lc106, X106, e106, hQ106, l106, st106⟩ := own_cS (own_rmsm221 l Z a0 hw hst [] oo101 ou101 ob kb c0 c1 c2 c3 h104 n0 Xo104 l0 l1 l2 l3 F107 F108) X104 hx hZ hown e104 (own_i hw 113 rfl) (own_i hw 114 rfl) (own_i hw 115 rfl) (own_i hw 116 rfl) (by decide) (g := (mkF m 157 #[sI p0, sI p1, sI p2, sI p3, sI p4, sI p5, sR ob, sR oa, sI va, sI vb, sI 2, sI 4, sR ow, sR oo101, sI 2] [(.int 2), (.int 2), (.ref ob), (.int 1), (.ref oo101)])) rfl (by rw [hml]; rfl) (argsL := [(.ref oo101), (.int 1), (.ref ob), (.int 2), (.int 2)]) (rest := []) (lenOf own_pd13 rfl) rfl rfl (hb hby at_157) (W := 0) (Nat.le_of_eq rfl) (K := 7) (N := 26) rfl rfl (by decide) (by decide) (by decide) (by decide)
  obtain ⟨hv106, N106q, K106⟩ := hQ106
  subst hv106
  have Cs106 : CHr Z consts_1 vm0 h104 vm0 h106 := CHr.keep K106 sf0 Ch104.1
  have Ch106 := Ch104.trans Cs106
  have Xo106 := Xo104.keep K106 all0
  have KK106 := KK104.trans K106 all0
  have N106 := l106 _ N104 N106q
  refine own_to ?_ st106
  refine own_to (V := T106.setTop (mkF m 172 #[sI p0, sI p1, sI p2, sI p3, sI p4, sI p5, sR ob, sR oa, sI va, sI vb, sI 2, sI 4, sR ow, sR oo101, sI 2] [(.int 2), (.int 2), (.ref ob), (.int 2), (.ref oo101)])) ?_ fun t k => (by
    refine XS.ifNo X106.here hx rfl (hb hby at_160) rfl ((if0 _ _).trans (feq ((by decide) : ¬ ((1 : Int32) = (0 : Int32)))).1) ?_
    refine XS.aload X106.here hx rfl (hb hby at_163) rfl rfl ?_
    refine XS.iconst X106.here hx rfl (hb hby at_165) ?_
    refine XS.aload X106.here hx rfl (hb hby at_166) rfl rfl ?_
    refine XS.iload X106.here hx rfl (hb hby at_168) rfl ?_
    refine XS.iload X106.here hx rfl (hb hby at_170) rfl ?_
    exact k)
  obtain ⟨_, T109, h109, L109, Lc109, X109, e109, hQ109, l109, st109⟩ := own_cS (own_rmsm l Z a0 hw hst [] (.ref oo101) (2 : Int32) (.ref ob) (2 : Int32) (2 : Int32) h106 n0 Xo106 rfl rfl (by first | assumption | decide | omega | (simp; done) | rfl)) X106 hx hZ hown e106 (own_i hw 113 rfl) (own_i hw 114 rfl) (own_i hw 115 rfl) (own_i hw 116 rfl) (by decide) (g := (mkF m 172 #[sI p0, sI p1, sI p2, sI p3, sI p4, sI p5, sR ob, sR oa, sI va, sI vb, sI 2, sI 4, sR ow, sR oo101, sI 2] [(.int 2), (.int 2), (.ref ob), (.int 2), (.ref oo101)])) rfl (by rw [hml]; rfl) (argsL := [(.ref oo101), (.int 2), (.ref ob), (.int 2), (.int 2)]) (rest := []) (lenOf own_pd13 rfl) rfl rfl (hb hby at_172) (W := 0) (Nat.le_of_eq rfl) (K := 7) (N := 26) rfl rfl (by decide) (by decide) (by decide) (by decide)
  obtain ⟨hv109, N109q, K109⟩ := hQ109
  subst hv109
  have Cs109 : CHr Z consts_1 vm0 h106 vm0 h109 := CHr.keep K109 sf0 Ch106.1
  have Ch109 := Ch106.trans Cs109
  have Xo109 := Xo106.keep K109 all0
  have KK109 := KK106.trans K109 all0
  have N109 := l109 _ N106 N109q
  refine own_to ?_ st109
  refine own_to (V := T109.setTop (mkF m 187 #[sI p0, sI p1, sI p2, sI p3, sI p4, sI p5, sR ob, sR oa, sI va, sI vb, sI 2, sI 4, sR ow, sR oo101, sI 2] [(.int 2), (.int 2), (.ref ob), (.int 3), (.ref oo101)])) ?_ fun t k => (by
    refine XS.ifNo X109.here hx rfl (hb hby at_175) rfl ((if0 _ _).trans (feq ((by decide) : ¬ ((1 : Int32) = (0 : Int32)))).1) ?_
    refine XS.aload X109.here hx rfl (hb hby at_178) rfl rfl ?_
    refine XS.iconst X109.here hx rfl (hb hby at_180) ?_
    refine XS.aload X109.here hx rfl (hb hby at_181) rfl rfl ?_
    refine XS.iload X109.here hx rfl (hb hby at_183) rfl ?_
    refine XS.iload X109.here hx rfl (hb hby at_185) rfl ?_
    exact k)
  obtain ⟨_, T110, h110, L110, Lc110, X110, e110, hQ110, l110, st110⟩ := own_cS (own_rmsm l Z a0 hw hst [] (.ref oo101) (3 : Int32) (.ref ob) (2 : Int32) (2 : Int32) h109 n0 Xo109 rfl rfl (by first | assumption | decide | omega | (simp; done) | rfl)) X109 hx hZ hown e109 (own_i hw 113 rfl) (own_i hw 114 rfl) (own_i hw 115 rfl) (own_i hw 116 rfl) (by decide) (g := (mkF m 187 #[sI p0, sI p1, sI p2, sI p3, sI p4, sI p5, sR ob, sR oa, sI va, sI vb, sI 2, sI 4, sR ow, sR oo101, sI 2] [(.int 2), (.int 2), (.ref ob), (.int 3), (.ref oo101)])) rfl (by rw [hml]; rfl) (argsL := [(.ref oo101), (.int 3), (.ref ob), (.int 2), (.int 2)]) (rest := []) (lenOf own_pd13 rfl) rfl rfl (hb hby at_187) (W := 0) (Nat.le_of_eq rfl) (K := 7) (N := 26) rfl rfl (by decide) (by decide) (by decide) (by decide)
  obtain ⟨hv110, N110q, K110⟩ := hQ110
  subst hv110
  have Cs110 : CHr Z consts_1 vm0 h109 vm0 h110 := CHr.keep K110 sf0 Ch109.1
  have Ch110 := Ch109.trans Cs110
  have Xo110 := Xo109.keep K110 all0
  have KK110 := KK109.trans K110 all0
  have N110 := l110 _ N109 N110q
  refine own_to ?_ st110
  refine own_to (V := T110.setTop (mkF m 198 #[sI p0, sI p1, sI p2, sI p3, sI p4, sI p5, sR ob, sR oa, sI va, sI vb, sI 2, sI 4, sR ow, sR oo101, sI 2] [(.int 1)])) ?_ fun t k => (by
    refine XS.ifNo X110.here hx rfl (hb hby at_190) rfl ((if0 _ _).trans (feq ((by decide) : ¬ ((1 : Int32) = (0 : Int32)))).1) ?_
    refine XS.iconst X110.here hx rfl (hb hby at_193) ?_
    refine XS.goto X110.here hx rfl (pc0 := 194) (pc' := 198) rfl (hb hby at_194) (by decide) (by decide) ?_
    exact k)
  exact own_retNH X110 hx hS0 (own_hk e110 (Nat.le_trans (Nat.le_trans (Nat.le_trans (Nat.le_trans (Nat.le_trans hk0 K101.1) K104.1) K106.1) K109.1) K110.1)) (by rw [e110, hh]; exact Ch110.trans (CHv.at X110 hZ (own_hEL hw) Ch110.1)) (t := .boolean) (w := (1 : Int32)) hret (by decide) rfl hlk (hb hby at_198) (by rw [e110]; exact (⟨rfl, N110, KK110⟩)) (by decide) (by decide)
theorem own_sglaw33 (l : Launch) (Z : State) (a0 : Array Value) (hw : ∀ d ∈ tables_1, d.before a0 Z = true) (hst : own_St Z) (p0 p1 p2 p3 p4 p5 : Int32) (h0 : Heap) (n0 : Nat) (ob : Addr) (kb : ClassId) (oa : Addr) (ua : Addr) (va : Int32) (vb : Int32) (c0 : Int32) (c1 : Int32) (c2 : Int32) (c3 : Int32) (ow : Addr)
    {p : Program} {e : Env} {s : State} {m : MethodId} {args : Array Value} {below : List Frame} {meth : Method} {c : Code} (hx : p.tables.exec = Jvm.exec) (hby : c.code = code) (hret : meth.sig.returnType = ret) (hlk : meth.locks = false) (hml : c.maxLocals = 15) (hnm : meth.name = "law") {vm0 : Vm} {k0 : Nat} (hS0 : s.Since vm0 k0) (hh : s.heap = h0) (hZ : Z.Warmed39 (s.setVm vm0).vm) (hown : (s.setVm vm0).vm.findClass "com/example/capstrike/capstrike/TermTextToStringPinLaw" = some m.cls)
    {T0 : State} {locs : List Loc} {h : Heap} (X0 : Stand p l e room_1 (s.setVm vm0) m args below meth c T0 locs 5 20) (e0 : T0.heap = h) (hk0 : k0 ≤ h.size) (Ch0 : CHr Z consts_1 s.vm h0 vm0 h) (N0 : Fr n0 locs) (Xo0 : Old Z n0 h) (KK0 : Keep h0 h []) (l0 : ¬ c0 < 0 ∧ ¬ (255 : Int32) < c0) (l1 : ¬ c1 < 0 ∧ ¬ (255 : Int32) < c1) (l2 : ¬ c2 < 0 ∧ ¬ (255 : Int32) < c2) (l3 : ¬ c3 < 0 ∧ ¬ (255 : Int32) < c3) (hS : own_Str Z h oa ua ([c0, c1, c2, c3] : List Int32)) (hA : Arv Z h ob kb .char (4 : Int32) [(.int c0), (.int c1), (.int c2), (.int c3)] (.int (0 : Int32))) (hE : Exa Z h ow nm1) (f1 : Fld Z h ow nm1 "text" nm2 (.ref oa)) (f2 : Fld Z h ow nm1 "start" "I" (.int 3)) (f3 : Fld Z h ow nm1 "end" "I" (.int 3)) :
    own_Go p e below (own_PostH Z s (own_Qlaw Z p0 p1 p2 p3 p4 p5 h0 n0) room_1.cells room_1.slots) (T0.setTop (mkF m 107 #[sI p0, sI p1, sI p2, sI p3, sI p4, sI p5, sR ob, sR oa, sI va, sI vb, sI 3, sI 3, sR ow, .unset, .unset] [])) := by
  obtain ⟨⟨G1, O2, P5⟩, ⟨G3, O4, rG3⟩, -⟩ := id hst
  refine own_to (V := T0.setTop (mkF m 109 #[sI p0, sI p1, sI p2, sI p3, sI p4, sI p5, sR ob, sR oa, sI va, sI vb, sI 3, sI 3, sR ow, .unset, .unset] [(.ref ow)])) ?_ fun t k => (by
    refine XS.aload X0.here hx rfl (hb hby at_107) rfl rfl ?_
    exact k)
  obtain ⟨cq101, kq101, q101a, q101b, q101c⟩ := isOf hZ e0 hE
  obtain ⟨_, _, ⟨T101, L101, k101, n101⟩, -, X101', hS101', hg101, ⟨Lc101, hQ101, l101, y101, z101, hC101'⟩, st101⟩ := X0.virtualBackS hx (y := own_mn12) (z := own_mn12) hown (mvT hZ (own_i hw 56 rfl)) (mvT hZ (own_i hw 57 rfl)) (notFace_of_selects (args := #[]) (mvT hZ (own_i hw 59 rfl))) (mvT hZ (own_i hw 59 rfl)) (mvT hZ (own_i hw 58 rfl)) (by decide) (backOfSH (W := 0) (own_rmtos33 l Z a0 hw hst [] ow oa ua c0 c1 c2 c3 h n0 Xo0 l0 l1 l2 l3 hE f1 f2 f3 hS) hZ (own_i hw 60 rfl) (own_i hw 40 rfl) (by decide) (by decide) (own_hEL hw) Ch0.1) q101a q101c (g := (mkF m 109 #[sI p0, sI p1, sI p2, sI p3, sI p4, sI p5, sR ob, sR oa, sI va, sI vb, sI 3, sI 3, sR ow, .unset, .unset] [(.ref ow)])) rfl (by rw [hml]; rfl) (Steps.refl _) (argsL := []) (rest := []) (lenOf own_pd12 rfl) rfl (by show 2 * 0 + _ ≤ _; exact Nat.le_of_eq rfl) (hb hby at_109) (fun _ _ => ⟨rfl, e0, (by decide : 5 + 2 ≤ _), (by decide : 20 + 4 ≤ _)⟩)
  dsimp only [own_R, Pt.U, Pt.locs, Pt.cells, Pt.slots] at X101' hS101' hg101 l101 y101 z101 st101 hQ101 hC101'
  subst y101 z101
  obtain ⟨X101, hS101, hZ101, hown101⟩ := rebS hS0 (own_hk e0 hk0) X101' hS101' hg101 hZ hown
  obtain ⟨oo101, ou101, hv101, N101q, K101, g101_0⟩ := hQ101
  subst hv101
  obtain ⟨h101, e101⟩ : ∃ z, T101.heap = z := ⟨_, rfl⟩
  rw [e101] at K101 g101_0 hC101'
  have Cs101 : CHr Z consts_1 vm0 h T101.vm h101 := hC101'
  have Ch101 := Ch0.trans Cs101
  have Xo101 := Xo0.keep K101 all0
  have KK101 := KK0.trans K101 all0
  have hk101 : T101.heap.size ≤ h101.size := by rw [e101]; exact Nat.le_refl _
  have N101 : Fr n0 L101 := by rw [l101]; exact Fr.app N0 N101q
  refine own_to ?_ (fun t k => st101.trans k)
  refine own_to (V := T101.setTop (mkF m 123 #[sI p0, sI p1, sI p2, sI p3, sI p4, sI p5, sR ob, sR oa, sI va, sI vb, sI 3, sI 3, sR ow, sR oo101, sI 0] [(.ref oo101)])) ?_ fun t k => (by
    refine XS.astore X101.here hx rfl (hb hby at_112) rfl rfl (l' := #[sI p0, sI p1, sI p2, sI p3, sI p4, sI p5, sR ob, sR oa, sI va, sI vb, sI 3, sI 3, sR ow, sR oo101, .unset]) rfl ?_
    refine XS.iload X101.here hx rfl (hb hby at_114) rfl ?_
    refine XS.iload X101.here hx rfl (hb hby at_116) rfl ?_
    refine XS.isub X101.here hx rfl (hb hby at_118) rfl ?_
    refine XS.istore X101.here hx rfl (hb hby at_119) rfl (l' := #[sI p0, sI p1, sI p2, sI p3, sI p4, sI p5, sR ob, sR oa, sI va, sI vb, sI 3, sI 3, sR ow, sR oo101, sI 0]) rfl ?_
    refine XS.aload X101.here hx rfl (hb hby at_121) rfl rfl ?_
    exact k)
  obtain ⟨sE103, sd103, sN103, sk103, sv103, sV103, sC103, sK103, sc103, sb103, sl103⟩ := id g101_0
  obtain ⟨cq102, kq102, q102a, q102b, q102c⟩ := isOf hZ101 e101 g101_0.1
  obtain ⟨_, _, ⟨T102, L102, k102, n102⟩, -, X102, ⟨Lc102, hQ102, l102, y102, z102⟩, st102⟩ := X101.virtualBack hx (y := own_mn11) (z := own_mn11) hown101 (mvT hZ101 (own_i hw 112 rfl)) (mvT hZ101 (own_i hw 67 rfl)) (notFace_of_selects (args := #[]) (mvT hZ101 (own_i hw 69 rfl))) (mvT hZ101 (own_i hw 69 rfl)) (mvT hZ101 (own_i hw 68 rfl)) (by decide) (StrChars.Road.lenW (W := 0) hZ101 (own_hln hw) (kI := 4) (own_i hw 2 rfl) sE103 sV103 sC103 sK103 sc103 sb103 (O2.ext Xo101.2) P5 sl103 (by decide) (by decide)) q102a q102c (g := (mkF m 123 #[sI p0, sI p1, sI p2, sI p3, sI p4, sI p5, sR ob, sR oa, sI va, sI vb, sI 3, sI 3, sR ow, sR oo101, sI 0] [(.ref oo101)])) rfl (by rw [hml]; rfl) (Steps.refl _) (argsL := []) (rest := []) (lenOf own_pd2 rfl) rfl (by show 2 * 0 + _ ≤ _; exact Nat.le_of_eq rfl) (hb hby at_123) (fun _ _ => ⟨rfl, e101, (by decide : 7 + 0 ≤ _), (by decide : 24 + 0 ≤ _)⟩)
  dsimp only [own_R, Pt.U, Pt.locs, Pt.cells, Pt.slots] at X102 l102 y102 z102 st102 hQ102
  subst y102 z102
  obtain ⟨hv102, hL102, hh102⟩ := hQ102
  subst hL102
  have N102 : Fr n0 L102 := by rw [l102]; exact Fr.app N101 (Fr.nil n0)
  subst hv102
  refine own_to ?_ (fun t k => st102.trans k)
  refine own_to (V := T102.setTop (mkF m 142 #[sI p0, sI p1, sI p2, sI p3, sI p4, sI p5, sR ob, sR oa, sI va, sI vb, sI 3, sI 3, sR ow, sR oo101, sI 0] [(.int 0), (.int 3), (.ref ob), (.int 0), (.ref oo101)])) ?_ fun t k => (by
    refine XS.iload X102.here hx rfl (hb hby at_126) rfl ?_
    refine XS.icmpYes X102.here hx rfl (pc0 := 128) (pc' := 133) rfl (hb hby at_128) rfl (teq ((by decide) : (0 : Int32) = (0 : Int32))).1 (by decide) (by decide) ?_
    refine XS.aload X102.here hx rfl (hb hby at_133) rfl rfl ?_
    refine XS.iconst X102.here hx rfl (hb hby at_135) ?_
    refine XS.aload X102.here hx rfl (hb hby at_136) rfl rfl ?_
    refine XS.iload X102.here hx rfl (hb hby at_138) rfl ?_
    refine XS.iload X102.here hx rfl (hb hby at_140) rfl ?_
    exact k)
  obtain ⟨_, T104, h104, L104, Lc104, X104, e104, hQ104, l104, st104⟩ := own_cS (own_rmsm l Z a0 hw hst [] (.ref oo101) (0 : Int32) (.ref ob) (3 : Int32) (0 : Int32) h101 n0 Xo101 rfl rfl (by first | assumption | decide | omega | (simp; done) | rfl)) X102 hx hZ101 hown101 hh102 (own_i hw 113 rfl) (own_i hw 114 rfl) (own_i hw 115 rfl) (own_i hw 116 rfl) (by decide) (g := (mkF m 142 #[sI p0, sI p1, sI p2, sI p3, sI p4, sI p5, sR ob, sR oa, sI va, sI vb, sI 3, sI 3, sR ow, sR oo101, sI 0] [(.int 0), (.int 3), (.ref ob), (.int 0), (.ref oo101)])) rfl (by rw [hml]; rfl) (argsL := [(.ref oo101), (.int 0), (.ref ob), (.int 3), (.int 0)]) (rest := []) (lenOf own_pd13 rfl) rfl rfl (hb hby at_142) (W := 0) (Nat.le_of_eq rfl) (K := 7) (N := 24) rfl rfl (by decide) (by decide) (by decide) (by decide)
  obtain ⟨hv104, N104q, K104⟩ := hQ104
  subst hv104
  have Cs104 : CHr Z consts_1 T101.vm h101 T101.vm h104 := CHr.keep K104 sf0 Ch101.1
  have Ch104 := Ch101.trans Cs104
  have Xo104 := Xo101.keep K104 all0
  have KK104 := KK101.trans K104 all0
  have N104 := l104 _ N102 N104q
  refine own_to ?_ st104
  refine own_to (V := T104.setTop (mkF m 157 #[sI p0, sI p1, sI p2, sI p3, sI p4, sI p5, sR ob, sR oa, sI va, sI vb, sI 3, sI 3, sR ow, sR oo101, sI 0] [(.int 0), (.int 3), (.ref ob), (.int 1), (.ref oo101)])) ?_ fun t k => (by
    refine XS.ifNo X104.here hx rfl (hb hby at_145) rfl ((if0 _ _).trans (feq ((by decide) : ¬ ((1 : Int32) = (0 : Int32)))).1) ?_
    refine XS.aload X104.here hx rfl (hb hby at_148) rfl rfl ?_
    refine XS.iconst X104.here hx rfl (hb hby at_150) ?_
    refine XS.aload X104.here hx rfl (hb hby at_151) rfl rfl ?_
    refine XS.iload X104.here hx rfl (hb hby at_153) rfl ?_
    refine XS.iload X104.here hx rfl (hb hby at_155) rfl ?_
    exact k)
  obtain ⟨_, T105, h105, L105, Lc105, X105, e105, hQ105, l105, st105⟩ := own_cS (own_rmsm l Z a0 hw hst [] (.ref oo101) (1 : Int32) (.ref ob) (3 : Int32) (0 : Int32) h104 n0 Xo104 rfl rfl (by first | assumption | decide | omega | (simp; done) | rfl)) X104 hx hZ101 hown101 e104 (own_i hw 113 rfl) (own_i hw 114 rfl) (own_i hw 115 rfl) (own_i hw 116 rfl) (by decide) (g := (mkF m 157 #[sI p0, sI p1, sI p2, sI p3, sI p4, sI p5, sR ob, sR oa, sI va, sI vb, sI 3, sI 3, sR ow, sR oo101, sI 0] [(.int 0), (.int 3), (.ref ob), (.int 1), (.ref oo101)])) rfl (by rw [hml]; rfl) (argsL := [(.ref oo101), (.int 1), (.ref ob), (.int 3), (.int 0)]) (rest := []) (lenOf own_pd13 rfl) rfl rfl (hb hby at_157) (W := 0) (Nat.le_of_eq rfl) (K := 7) (N := 24) rfl rfl (by decide) (by decide) (by decide) (by decide)
  obtain ⟨hv105, N105q, K105⟩ := hQ105
  subst hv105
  have Cs105 : CHr Z consts_1 T101.vm h104 T101.vm h105 := CHr.keep K105 sf0 Ch104.1
  have Ch105 := Ch104.trans Cs105
  have Xo105 := Xo104.keep K105 all0
  have KK105 := KK104.trans K105 all0
  have N105 := l105 _ N104 N105q
  refine own_to ?_ st105
  refine own_to (V := T105.setTop (mkF m 172 #[sI p0, sI p1, sI p2, sI p3, sI p4, sI p5, sR ob, sR oa, sI va, sI vb, sI 3, sI 3, sR ow, sR oo101, sI 0] [(.int 0), (.int 3), (.ref ob), (.int 2), (.ref oo101)])) ?_ fun t k => (by
    refine XS.ifNo X105.here hx rfl (hb hby at_160) rfl ((if0 _ _).trans (feq ((by decide) : ¬ ((1 : Int32) = (0 : Int32)))).1) ?_
    refine XS.aload X105.here hx rfl (hb hby at_163) rfl rfl ?_
    refine XS.iconst X105.here hx rfl (hb hby at_165) ?_
    refine XS.aload X105.here hx rfl (hb hby at_166) rfl rfl ?_
    refine XS.iload X105.here hx rfl (hb hby at_168) rfl ?_
    refine XS.iload X105.here hx rfl (hb hby at_170) rfl ?_
    exact k)
  obtain ⟨_, T106, h106, L106, Lc106, X106, e106, hQ106, l106, st106⟩ := own_cS (own_rmsm l Z a0 hw hst [] (.ref oo101) (2 : Int32) (.ref ob) (3 : Int32) (0 : Int32) h105 n0 Xo105 rfl rfl (by first | assumption | decide | omega | (simp; done) | rfl)) X105 hx hZ101 hown101 e105 (own_i hw 113 rfl) (own_i hw 114 rfl) (own_i hw 115 rfl) (own_i hw 116 rfl) (by decide) (g := (mkF m 172 #[sI p0, sI p1, sI p2, sI p3, sI p4, sI p5, sR ob, sR oa, sI va, sI vb, sI 3, sI 3, sR ow, sR oo101, sI 0] [(.int 0), (.int 3), (.ref ob), (.int 2), (.ref oo101)])) rfl (by rw [hml]; rfl) (argsL := [(.ref oo101), (.int 2), (.ref ob), (.int 3), (.int 0)]) (rest := []) (lenOf own_pd13 rfl) rfl rfl (hb hby at_172) (W := 0) (Nat.le_of_eq rfl) (K := 7) (N := 24) rfl rfl (by decide) (by decide) (by decide) (by decide)
  obtain ⟨hv106, N106q, K106⟩ := hQ106
  subst hv106
  have Cs106 : CHr Z consts_1 T101.vm h105 T101.vm h106 := CHr.keep K106 sf0 Ch105.1
  have Ch106 := Ch105.trans Cs106
  have Xo106 := Xo105.keep K106 all0
  have KK106 := KK105.trans K106 all0
  have N106 := l106 _ N105 N106q
  refine own_to ?_ st106
  refine own_to (V := T106.setTop (mkF m 187 #[sI p0, sI p1, sI p2, sI p3, sI p4, sI p5, sR ob, sR oa, sI va, sI vb, sI 3, sI 3, sR ow, sR oo101, sI 0] [(.int 0), (.int 3), (.ref ob), (.int 3), (.ref oo101)])) ?_ fun t k => (by
    refine XS.ifNo X106.here hx rfl (hb hby at_175) rfl ((if0 _ _).trans (feq ((by decide) : ¬ ((1 : Int32) = (0 : Int32)))).1) ?_
    refine XS.aload X106.here hx rfl (hb hby at_178) rfl rfl ?_
    refine XS.iconst X106.here hx rfl (hb hby at_180) ?_
    refine XS.aload X106.here hx rfl (hb hby at_181) rfl rfl ?_
    refine XS.iload X106.here hx rfl (hb hby at_183) rfl ?_
    refine XS.iload X106.here hx rfl (hb hby at_185) rfl ?_
    exact k)
  obtain ⟨_, T107, h107, L107, Lc107, X107, e107, hQ107, l107, st107⟩ := own_cS (own_rmsm l Z a0 hw hst [] (.ref oo101) (3 : Int32) (.ref ob) (3 : Int32) (0 : Int32) h106 n0 Xo106 rfl rfl (by first | assumption | decide | omega | (simp; done) | rfl)) X106 hx hZ101 hown101 e106 (own_i hw 113 rfl) (own_i hw 114 rfl) (own_i hw 115 rfl) (own_i hw 116 rfl) (by decide) (g := (mkF m 187 #[sI p0, sI p1, sI p2, sI p3, sI p4, sI p5, sR ob, sR oa, sI va, sI vb, sI 3, sI 3, sR ow, sR oo101, sI 0] [(.int 0), (.int 3), (.ref ob), (.int 3), (.ref oo101)])) rfl (by rw [hml]; rfl) (argsL := [(.ref oo101), (.int 3), (.ref ob), (.int 3), (.int 0)]) (rest := []) (lenOf own_pd13 rfl) rfl rfl (hb hby at_187) (W := 0) (Nat.le_of_eq rfl) (K := 7) (N := 24) rfl rfl (by decide) (by decide) (by decide) (by decide)
  obtain ⟨hv107, N107q, K107⟩ := hQ107
  subst hv107
  have Cs107 : CHr Z consts_1 T101.vm h106 T101.vm h107 := CHr.keep K107 sf0 Ch106.1
  have Ch107 := Ch106.trans Cs107
  have Xo107 := Xo106.keep K107 all0
  have KK107 := KK106.trans K107 all0
  have N107 := l107 _ N106 N107q
  refine own_to ?_ st107
  refine own_to (V := T107.setTop (mkF m 198 #[sI p0, sI p1, sI p2, sI p3, sI p4, sI p5, sR ob, sR oa, sI va, sI vb, sI 3, sI 3, sR ow, sR oo101, sI 0] [(.int 1)])) ?_ fun t k => (by
    refine XS.ifNo X107.here hx rfl (hb hby at_190) rfl ((if0 _ _).trans (feq ((by decide) : ¬ ((1 : Int32) = (0 : Int32)))).1) ?_
    refine XS.iconst X107.here hx rfl (hb hby at_193) ?_
    refine XS.goto X107.here hx rfl (pc0 := 194) (pc' := 198) rfl (hb hby at_194) (by decide) (by decide) ?_
    exact k)
  exact own_retNH X107 hx hS101 (own_hk e107 (Nat.le_trans (Nat.le_trans (Nat.le_trans (Nat.le_trans hk101 K104.1) K105.1) K106.1) K107.1)) (by rw [e107, hh]; exact Ch107.trans (CHv.at X107 hZ101 (own_hEL hw) Ch107.1)) (t := .boolean) (w := (1 : Int32)) hret (by decide) rfl hlk (hb hby at_198) (by rw [e107]; exact (⟨rfl, N107, KK107⟩)) (by decide) (by decide)
theorem own_sglaw34 (l : Launch) (Z : State) (a0 : Array Value) (hw : ∀ d ∈ tables_1, d.before a0 Z = true) (hst : own_St Z) (p0 p1 p2 p3 p4 p5 : Int32) (h0 : Heap) (n0 : Nat) (ob : Addr) (kb : ClassId) (oa : Addr) (ua : Addr) (va : Int32) (vb : Int32) (c0 : Int32) (c1 : Int32) (c2 : Int32) (c3 : Int32) (ow : Addr)
    {p : Program} {e : Env} {s : State} {m : MethodId} {args : Array Value} {below : List Frame} {meth : Method} {c : Code} (hx : p.tables.exec = Jvm.exec) (hby : c.code = code) (hret : meth.sig.returnType = ret) (hlk : meth.locks = false) (hml : c.maxLocals = 15) (hnm : meth.name = "law") {vm0 : Vm} {k0 : Nat} (hS0 : s.Since vm0 k0) (hh : s.heap = h0) (hZ : Z.Warmed39 (s.setVm vm0).vm) (hown : (s.setVm vm0).vm.findClass "com/example/capstrike/capstrike/TermTextToStringPinLaw" = some m.cls)
    {T0 : State} {locs : List Loc} {h : Heap} (X0 : Stand p l e room_1 (s.setVm vm0) m args below meth c T0 locs 5 20) (e0 : T0.heap = h) (hk0 : k0 ≤ h.size) (Ch0 : CHr Z consts_1 s.vm h0 vm0 h) (N0 : Fr n0 locs) (Xo0 : Old Z n0 h) (KK0 : Keep h0 h []) (l0 : ¬ c0 < 0 ∧ ¬ (255 : Int32) < c0) (l1 : ¬ c1 < 0 ∧ ¬ (255 : Int32) < c1) (l2 : ¬ c2 < 0 ∧ ¬ (255 : Int32) < c2) (l3 : ¬ c3 < 0 ∧ ¬ (255 : Int32) < c3) (hS : own_Str Z h oa ua ([c0, c1, c2, c3] : List Int32)) (hA : Arv Z h ob kb .char (4 : Int32) [(.int c0), (.int c1), (.int c2), (.int c3)] (.int (0 : Int32))) (hE : Exa Z h ow nm1) (f1 : Fld Z h ow nm1 "text" nm2 (.ref oa)) (f2 : Fld Z h ow nm1 "start" "I" (.int 3)) (f3 : Fld Z h ow nm1 "end" "I" (.int 4)) :
    own_Go p e below (own_PostH Z s (own_Qlaw Z p0 p1 p2 p3 p4 p5 h0 n0) room_1.cells room_1.slots) (T0.setTop (mkF m 107 #[sI p0, sI p1, sI p2, sI p3, sI p4, sI p5, sR ob, sR oa, sI va, sI vb, sI 3, sI 4, sR ow, .unset, .unset] [])) := by
  obtain ⟨⟨G1, O2, P5⟩, ⟨G3, O4, rG3⟩, -⟩ := id hst
  refine own_to (V := T0.setTop (mkF m 109 #[sI p0, sI p1, sI p2, sI p3, sI p4, sI p5, sR ob, sR oa, sI va, sI vb, sI 3, sI 4, sR ow, .unset, .unset] [(.ref ow)])) ?_ fun t k => (by
    refine XS.aload X0.here hx rfl (hb hby at_107) rfl rfl ?_
    exact k)
  obtain ⟨_, T101, h101, L101, Lc101, X101, e101, hQ101, l101, st101⟩ := own_cV (own_rmtos34 l Z a0 hw hst [] ow oa ua c0 c1 c2 c3 h n0 Xo0 l0 l1 l2 l3 hE f1 f2 f3 hS) X0 hx hZ hown e0 hE (own_i hw 56 rfl) (own_i hw 57 rfl) (notFace_of_selects (args := #[]) (mvT hZ (own_i hw 59 rfl))) (own_i hw 59 rfl) (own_i hw 58 rfl) (own_i hw 40 rfl) (own_i hw 60 rfl) (by decide) (g := (mkF m 109 #[sI p0, sI p1, sI p2, sI p3, sI p4, sI p5, sR ob, sR oa, sI va, sI vb, sI 3, sI 4, sR ow, .unset, .unset] [(.ref ow)])) rfl (by rw [hml]; rfl) (argsL := []) (rest := []) (lenOf own_pd12 rfl) rfl rfl (hb hby at_109) (W := 0) (Nat.le_of_eq rfl) (K := 7) (N := 25) rfl rfl (by decide) (by decide) (by decide) (by decide)
  obtain ⟨oo101, ou101, hv101, N101q, K101, g101_0⟩ := hQ101
  subst hv101
  have Cs101 : CHr Z consts_1 vm0 h vm0 h101 := CHr.keep K101 sf0 Ch0.1
  have Ch101 := Ch0.trans Cs101
  have Xo101 := Xo0.keep K101 all0
  have KK101 := KK0.trans K101 all0
  have N101 := l101 _ N0 N101q
  refine own_to ?_ st101
  refine own_to (V := T101.setTop (mkF m 123 #[sI p0, sI p1, sI p2, sI p3, sI p4, sI p5, sR ob, sR oa, sI va, sI vb, sI 3, sI 4, sR ow, sR oo101, sI 1] [(.ref oo101)])) ?_ fun t k => (by
    refine XS.astore X101.here hx rfl (hb hby at_112) rfl rfl (l' := #[sI p0, sI p1, sI p2, sI p3, sI p4, sI p5, sR ob, sR oa, sI va, sI vb, sI 3, sI 4, sR ow, sR oo101, .unset]) rfl ?_
    refine XS.iload X101.here hx rfl (hb hby at_114) rfl ?_
    refine XS.iload X101.here hx rfl (hb hby at_116) rfl ?_
    refine XS.isub X101.here hx rfl (hb hby at_118) rfl ?_
    refine XS.istore X101.here hx rfl (hb hby at_119) rfl (l' := #[sI p0, sI p1, sI p2, sI p3, sI p4, sI p5, sR ob, sR oa, sI va, sI vb, sI 3, sI 4, sR ow, sR oo101, sI 1]) rfl ?_
    refine XS.aload X101.here hx rfl (hb hby at_121) rfl rfl ?_
    exact k)
  obtain ⟨sE103, sd103, sN103, sk103, sv103, sV103, sC103, sK103, sc103, sb103, sl103⟩ := id g101_0
  obtain ⟨cq102, kq102, q102a, q102b, q102c⟩ := isOf hZ e101 g101_0.1
  obtain ⟨_, _, ⟨T102, L102, k102, n102⟩, -, X102, ⟨Lc102, hQ102, l102, y102, z102⟩, st102⟩ := X101.virtualBack hx (y := own_mn11) (z := own_mn11) hown (mvT hZ (own_i hw 112 rfl)) (mvT hZ (own_i hw 67 rfl)) (notFace_of_selects (args := #[]) (mvT hZ (own_i hw 69 rfl))) (mvT hZ (own_i hw 69 rfl)) (mvT hZ (own_i hw 68 rfl)) (by decide) (StrChars.Road.lenW (W := 0) hZ (own_hln hw) (kI := 4) (own_i hw 2 rfl) sE103 sV103 sC103 sK103 sc103 sb103 (O2.ext Xo101.2) P5 sl103 (by decide) (by decide)) q102a q102c (g := (mkF m 123 #[sI p0, sI p1, sI p2, sI p3, sI p4, sI p5, sR ob, sR oa, sI va, sI vb, sI 3, sI 4, sR ow, sR oo101, sI 1] [(.ref oo101)])) rfl (by rw [hml]; rfl) (Steps.refl _) (argsL := []) (rest := []) (lenOf own_pd2 rfl) rfl (by show 2 * 0 + _ ≤ _; exact Nat.le_of_eq rfl) (hb hby at_123) (fun _ _ => ⟨rfl, e101, (by decide : 7 + 0 ≤ _), (by decide : 25 + 0 ≤ _)⟩)
  dsimp only [own_R, Pt.U, Pt.locs, Pt.cells, Pt.slots] at X102 l102 y102 z102 st102 hQ102
  subst y102 z102
  obtain ⟨hv102, hL102, hh102⟩ := hQ102
  subst hL102
  have N102 : Fr n0 L102 := by rw [l102]; exact Fr.app N101 (Fr.nil n0)
  subst hv102
  refine own_to ?_ (fun t k => st102.trans k)
  refine own_to (V := T102.setTop (mkF m 142 #[sI p0, sI p1, sI p2, sI p3, sI p4, sI p5, sR ob, sR oa, sI va, sI vb, sI 3, sI 4, sR ow, sR oo101, sI 1] [(.int 1), (.int 3), (.ref ob), (.int 0), (.ref oo101)])) ?_ fun t k => (by
    refine XS.iload X102.here hx rfl (hb hby at_126) rfl ?_
    refine XS.icmpYes X102.here hx rfl (pc0 := 128) (pc' := 133) rfl (hb hby at_128) rfl (teq ((by decide) : (1 : Int32) = (1 : Int32))).1 (by decide) (by decide) ?_
    refine XS.aload X102.here hx rfl (hb hby at_133) rfl rfl ?_
    refine XS.iconst X102.here hx rfl (hb hby at_135) ?_
    refine XS.aload X102.here hx rfl (hb hby at_136) rfl rfl ?_
    refine XS.iload X102.here hx rfl (hb hby at_138) rfl ?_
    refine XS.iload X102.here hx rfl (hb hby at_140) rfl ?_
    exact k)
  have F105 := (hA.keep K101 List.not_mem_nil)
  obtain ⟨_, T104, h104, L104, Lc104, X104, e104, hQ104, l104, st104⟩ := own_cS (own_rmsm130 l Z a0 hw hst [] oo101 ou101 ob kb c0 c1 c2 c3 h101 n0 Xo101 l0 l1 l2 l3 g101_0 F105) X102 hx hZ hown hh102 (own_i hw 113 rfl) (own_i hw 114 rfl) (own_i hw 115 rfl) (own_i hw 116 rfl) (by decide) (g := (mkF m 142 #[sI p0, sI p1, sI p2, sI p3, sI p4, sI p5, sR ob, sR oa, sI va, sI vb, sI 3, sI 4, sR ow, sR oo101, sI 1] [(.int 1), (.int 3), (.ref ob), (.int 0), (.ref oo101)])) rfl (by rw [hml]; rfl) (argsL := [(.ref oo101), (.int 0), (.ref ob), (.int 3), (.int 1)]) (rest := []) (lenOf own_pd13 rfl) rfl rfl (hb hby at_142) (W := 0) (Nat.le_of_eq rfl) (K := 7) (N := 25) rfl rfl (by decide) (by decide) (by decide) (by decide)
  obtain ⟨hv104, N104q, K104⟩ := hQ104
  subst hv104
  have Cs104 : CHr Z consts_1 vm0 h101 vm0 h104 := CHr.keep K104 sf0 Ch101.1
  have Ch104 := Ch101.trans Cs104
  have Xo104 := Xo101.keep K104 all0
  have KK104 := KK101.trans K104 all0
  have N104 := l104 _ N102 N104q
  refine own_to ?_ st104
  refine own_to (V := T104.setTop (mkF m 157 #[sI p0, sI p1, sI p2, sI p3, sI p4, sI p5, sR ob, sR oa, sI va, sI vb, sI 3, sI 4, sR ow, sR oo101, sI 1] [(.int 1), (.int 3), (.ref ob), (.int 1), (.ref oo101)])) ?_ fun t k => (by
    refine XS.ifNo X104.here hx rfl (hb hby at_145) rfl ((if0 _ _).trans (feq ((by decide) : ¬ ((1 : Int32) = (0 : Int32)))).1) ?_
    refine XS.aload X104.here hx rfl (hb hby at_148) rfl rfl ?_
    refine XS.iconst X104.here hx rfl (hb hby at_150) ?_
    refine XS.aload X104.here hx rfl (hb hby at_151) rfl rfl ?_
    refine XS.iload X104.here hx rfl (hb hby at_153) rfl ?_
    refine XS.iload X104.here hx rfl (hb hby at_155) rfl ?_
    exact k)
  obtain ⟨_, T106, h106, L106, Lc106, X106, e106, hQ106, l106, st106⟩ := own_cS (own_rmsm l Z a0 hw hst [] (.ref oo101) (1 : Int32) (.ref ob) (3 : Int32) (1 : Int32) h104 n0 Xo104 rfl rfl (by first | assumption | decide | omega | (simp; done) | rfl)) X104 hx hZ hown e104 (own_i hw 113 rfl) (own_i hw 114 rfl) (own_i hw 115 rfl) (own_i hw 116 rfl) (by decide) (g := (mkF m 157 #[sI p0, sI p1, sI p2, sI p3, sI p4, sI p5, sR ob, sR oa, sI va, sI vb, sI 3, sI 4, sR ow, sR oo101, sI 1] [(.int 1), (.int 3), (.ref ob), (.int 1), (.ref oo101)])) rfl (by rw [hml]; rfl) (argsL := [(.ref oo101), (.int 1), (.ref ob), (.int 3), (.int 1)]) (rest := []) (lenOf own_pd13 rfl) rfl rfl (hb hby at_157) (W := 0) (Nat.le_of_eq rfl) (K := 7) (N := 25) rfl rfl (by decide) (by decide) (by decide) (by decide)
  obtain ⟨hv106, N106q, K106⟩ := hQ106
  subst hv106
  have Cs106 : CHr Z consts_1 vm0 h104 vm0 h106 := CHr.keep K106 sf0 Ch104.1
  have Ch106 := Ch104.trans Cs106
  have Xo106 := Xo104.keep K106 all0
  have KK106 := KK104.trans K106 all0
  have N106 := l106 _ N104 N106q
  refine own_to ?_ st106
  refine own_to (V := T106.setTop (mkF m 172 #[sI p0, sI p1, sI p2, sI p3, sI p4, sI p5, sR ob, sR oa, sI va, sI vb, sI 3, sI 4, sR ow, sR oo101, sI 1] [(.int 1), (.int 3), (.ref ob), (.int 2), (.ref oo101)])) ?_ fun t k => (by
    refine XS.ifNo X106.here hx rfl (hb hby at_160) rfl ((if0 _ _).trans (feq ((by decide) : ¬ ((1 : Int32) = (0 : Int32)))).1) ?_
    refine XS.aload X106.here hx rfl (hb hby at_163) rfl rfl ?_
    refine XS.iconst X106.here hx rfl (hb hby at_165) ?_
    refine XS.aload X106.here hx rfl (hb hby at_166) rfl rfl ?_
    refine XS.iload X106.here hx rfl (hb hby at_168) rfl ?_
    refine XS.iload X106.here hx rfl (hb hby at_170) rfl ?_
    exact k)
  obtain ⟨_, T107, h107, L107, Lc107, X107, e107, hQ107, l107, st107⟩ := own_cS (own_rmsm l Z a0 hw hst [] (.ref oo101) (2 : Int32) (.ref ob) (3 : Int32) (1 : Int32) h106 n0 Xo106 rfl rfl (by first | assumption | decide | omega | (simp; done) | rfl)) X106 hx hZ hown e106 (own_i hw 113 rfl) (own_i hw 114 rfl) (own_i hw 115 rfl) (own_i hw 116 rfl) (by decide) (g := (mkF m 172 #[sI p0, sI p1, sI p2, sI p3, sI p4, sI p5, sR ob, sR oa, sI va, sI vb, sI 3, sI 4, sR ow, sR oo101, sI 1] [(.int 1), (.int 3), (.ref ob), (.int 2), (.ref oo101)])) rfl (by rw [hml]; rfl) (argsL := [(.ref oo101), (.int 2), (.ref ob), (.int 3), (.int 1)]) (rest := []) (lenOf own_pd13 rfl) rfl rfl (hb hby at_172) (W := 0) (Nat.le_of_eq rfl) (K := 7) (N := 25) rfl rfl (by decide) (by decide) (by decide) (by decide)
  obtain ⟨hv107, N107q, K107⟩ := hQ107
  subst hv107
  have Cs107 : CHr Z consts_1 vm0 h106 vm0 h107 := CHr.keep K107 sf0 Ch106.1
  have Ch107 := Ch106.trans Cs107
  have Xo107 := Xo106.keep K107 all0
  have KK107 := KK106.trans K107 all0
  have N107 := l107 _ N106 N107q
  refine own_to ?_ st107
  refine own_to (V := T107.setTop (mkF m 187 #[sI p0, sI p1, sI p2, sI p3, sI p4, sI p5, sR ob, sR oa, sI va, sI vb, sI 3, sI 4, sR ow, sR oo101, sI 1] [(.int 1), (.int 3), (.ref ob), (.int 3), (.ref oo101)])) ?_ fun t k => (by
    refine XS.ifNo X107.here hx rfl (hb hby at_175) rfl ((if0 _ _).trans (feq ((by decide) : ¬ ((1 : Int32) = (0 : Int32)))).1) ?_
    refine XS.aload X107.here hx rfl (hb hby at_178) rfl rfl ?_
    refine XS.iconst X107.here hx rfl (hb hby at_180) ?_
    refine XS.aload X107.here hx rfl (hb hby at_181) rfl rfl ?_
    refine XS.iload X107.here hx rfl (hb hby at_183) rfl ?_
    refine XS.iload X107.here hx rfl (hb hby at_185) rfl ?_
    exact k)
  obtain ⟨_, T108, h108, L108, Lc108, X108, e108, hQ108, l108, st108⟩ := own_cS (own_rmsm l Z a0 hw hst [] (.ref oo101) (3 : Int32) (.ref ob) (3 : Int32) (1 : Int32) h107 n0 Xo107 rfl rfl (by first | assumption | decide | omega | (simp; done) | rfl)) X107 hx hZ hown e107 (own_i hw 113 rfl) (own_i hw 114 rfl) (own_i hw 115 rfl) (own_i hw 116 rfl) (by decide) (g := (mkF m 187 #[sI p0, sI p1, sI p2, sI p3, sI p4, sI p5, sR ob, sR oa, sI va, sI vb, sI 3, sI 4, sR ow, sR oo101, sI 1] [(.int 1), (.int 3), (.ref ob), (.int 3), (.ref oo101)])) rfl (by rw [hml]; rfl) (argsL := [(.ref oo101), (.int 3), (.ref ob), (.int 3), (.int 1)]) (rest := []) (lenOf own_pd13 rfl) rfl rfl (hb hby at_187) (W := 0) (Nat.le_of_eq rfl) (K := 7) (N := 25) rfl rfl (by decide) (by decide) (by decide) (by decide)
  obtain ⟨hv108, N108q, K108⟩ := hQ108
  subst hv108
  have Cs108 : CHr Z consts_1 vm0 h107 vm0 h108 := CHr.keep K108 sf0 Ch107.1
  have Ch108 := Ch107.trans Cs108
  have Xo108 := Xo107.keep K108 all0
  have KK108 := KK107.trans K108 all0
  have N108 := l108 _ N107 N108q
  refine own_to ?_ st108
  refine own_to (V := T108.setTop (mkF m 198 #[sI p0, sI p1, sI p2, sI p3, sI p4, sI p5, sR ob, sR oa, sI va, sI vb, sI 3, sI 4, sR ow, sR oo101, sI 1] [(.int 1)])) ?_ fun t k => (by
    refine XS.ifNo X108.here hx rfl (hb hby at_190) rfl ((if0 _ _).trans (feq ((by decide) : ¬ ((1 : Int32) = (0 : Int32)))).1) ?_
    refine XS.iconst X108.here hx rfl (hb hby at_193) ?_
    refine XS.goto X108.here hx rfl (pc0 := 194) (pc' := 198) rfl (hb hby at_194) (by decide) (by decide) ?_
    exact k)
  exact own_retNH X108 hx hS0 (own_hk e108 (Nat.le_trans (Nat.le_trans (Nat.le_trans (Nat.le_trans (Nat.le_trans hk0 K101.1) K104.1) K106.1) K107.1) K108.1)) (by rw [e108, hh]; exact Ch108.trans (CHv.at X108 hZ (own_hEL hw) Ch108.1)) (t := .boolean) (w := (1 : Int32)) hret (by decide) rfl hlk (hb hby at_198) (by rw [e108]; exact (⟨rfl, N108, KK108⟩)) (by decide) (by decide)
theorem own_sglaw44 (l : Launch) (Z : State) (a0 : Array Value) (hw : ∀ d ∈ tables_1, d.before a0 Z = true) (hst : own_St Z) (p0 p1 p2 p3 p4 p5 : Int32) (h0 : Heap) (n0 : Nat) (ob : Addr) (kb : ClassId) (oa : Addr) (ua : Addr) (va : Int32) (vb : Int32) (c0 : Int32) (c1 : Int32) (c2 : Int32) (c3 : Int32) (ow : Addr)
    {p : Program} {e : Env} {s : State} {m : MethodId} {args : Array Value} {below : List Frame} {meth : Method} {c : Code} (hx : p.tables.exec = Jvm.exec) (hby : c.code = code) (hret : meth.sig.returnType = ret) (hlk : meth.locks = false) (hml : c.maxLocals = 15) (hnm : meth.name = "law") {vm0 : Vm} {k0 : Nat} (hS0 : s.Since vm0 k0) (hh : s.heap = h0) (hZ : Z.Warmed39 (s.setVm vm0).vm) (hown : (s.setVm vm0).vm.findClass "com/example/capstrike/capstrike/TermTextToStringPinLaw" = some m.cls)
    {T0 : State} {locs : List Loc} {h : Heap} (X0 : Stand p l e room_1 (s.setVm vm0) m args below meth c T0 locs 5 20) (e0 : T0.heap = h) (hk0 : k0 ≤ h.size) (Ch0 : CHr Z consts_1 s.vm h0 vm0 h) (N0 : Fr n0 locs) (Xo0 : Old Z n0 h) (KK0 : Keep h0 h []) (l0 : ¬ c0 < 0 ∧ ¬ (255 : Int32) < c0) (l1 : ¬ c1 < 0 ∧ ¬ (255 : Int32) < c1) (l2 : ¬ c2 < 0 ∧ ¬ (255 : Int32) < c2) (l3 : ¬ c3 < 0 ∧ ¬ (255 : Int32) < c3) (hS : own_Str Z h oa ua ([c0, c1, c2, c3] : List Int32)) (hA : Arv Z h ob kb .char (4 : Int32) [(.int c0), (.int c1), (.int c2), (.int c3)] (.int (0 : Int32))) (hE : Exa Z h ow nm1) (f1 : Fld Z h ow nm1 "text" nm2 (.ref oa)) (f2 : Fld Z h ow nm1 "start" "I" (.int 4)) (f3 : Fld Z h ow nm1 "end" "I" (.int 4)) :
    own_Go p e below (own_PostH Z s (own_Qlaw Z p0 p1 p2 p3 p4 p5 h0 n0) room_1.cells room_1.slots) (T0.setTop (mkF m 107 #[sI p0, sI p1, sI p2, sI p3, sI p4, sI p5, sR ob, sR oa, sI va, sI vb, sI 4, sI 4, sR ow, .unset, .unset] [])) := by
  obtain ⟨⟨G1, O2, P5⟩, ⟨G3, O4, rG3⟩, -⟩ := id hst
  refine own_to (V := T0.setTop (mkF m 109 #[sI p0, sI p1, sI p2, sI p3, sI p4, sI p5, sR ob, sR oa, sI va, sI vb, sI 4, sI 4, sR ow, .unset, .unset] [(.ref ow)])) ?_ fun t k => (by
    refine XS.aload X0.here hx rfl (hb hby at_107) rfl rfl ?_
    exact k)
  obtain ⟨cq101, kq101, q101a, q101b, q101c⟩ := isOf hZ e0 hE
  obtain ⟨_, _, ⟨T101, L101, k101, n101⟩, -, X101', hS101', hg101, ⟨Lc101, hQ101, l101, y101, z101, hC101'⟩, st101⟩ := X0.virtualBackS hx (y := own_mn12) (z := own_mn12) hown (mvT hZ (own_i hw 56 rfl)) (mvT hZ (own_i hw 57 rfl)) (notFace_of_selects (args := #[]) (mvT hZ (own_i hw 59 rfl))) (mvT hZ (own_i hw 59 rfl)) (mvT hZ (own_i hw 58 rfl)) (by decide) (backOfSH (W := 0) (own_rmtos44 l Z a0 hw hst [] ow oa ua c0 c1 c2 c3 h n0 Xo0 l0 l1 l2 l3 hE f1 f2 f3 hS) hZ (own_i hw 60 rfl) (own_i hw 40 rfl) (by decide) (by decide) (own_hEL hw) Ch0.1) q101a q101c (g := (mkF m 109 #[sI p0, sI p1, sI p2, sI p3, sI p4, sI p5, sR ob, sR oa, sI va, sI vb, sI 4, sI 4, sR ow, .unset, .unset] [(.ref ow)])) rfl (by rw [hml]; rfl) (Steps.refl _) (argsL := []) (rest := []) (lenOf own_pd12 rfl) rfl (by show 2 * 0 + _ ≤ _; exact Nat.le_of_eq rfl) (hb hby at_109) (fun _ _ => ⟨rfl, e0, (by decide : 5 + 2 ≤ _), (by decide : 20 + 4 ≤ _)⟩)
  dsimp only [own_R, Pt.U, Pt.locs, Pt.cells, Pt.slots] at X101' hS101' hg101 l101 y101 z101 st101 hQ101 hC101'
  subst y101 z101
  obtain ⟨X101, hS101, hZ101, hown101⟩ := rebS hS0 (own_hk e0 hk0) X101' hS101' hg101 hZ hown
  obtain ⟨oo101, ou101, hv101, N101q, K101, g101_0⟩ := hQ101
  subst hv101
  obtain ⟨h101, e101⟩ : ∃ z, T101.heap = z := ⟨_, rfl⟩
  rw [e101] at K101 g101_0 hC101'
  have Cs101 : CHr Z consts_1 vm0 h T101.vm h101 := hC101'
  have Ch101 := Ch0.trans Cs101
  have Xo101 := Xo0.keep K101 all0
  have KK101 := KK0.trans K101 all0
  have hk101 : T101.heap.size ≤ h101.size := by rw [e101]; exact Nat.le_refl _
  have N101 : Fr n0 L101 := by rw [l101]; exact Fr.app N0 N101q
  refine own_to ?_ (fun t k => st101.trans k)
  refine own_to (V := T101.setTop (mkF m 123 #[sI p0, sI p1, sI p2, sI p3, sI p4, sI p5, sR ob, sR oa, sI va, sI vb, sI 4, sI 4, sR ow, sR oo101, sI 0] [(.ref oo101)])) ?_ fun t k => (by
    refine XS.astore X101.here hx rfl (hb hby at_112) rfl rfl (l' := #[sI p0, sI p1, sI p2, sI p3, sI p4, sI p5, sR ob, sR oa, sI va, sI vb, sI 4, sI 4, sR ow, sR oo101, .unset]) rfl ?_
    refine XS.iload X101.here hx rfl (hb hby at_114) rfl ?_
    refine XS.iload X101.here hx rfl (hb hby at_116) rfl ?_
    refine XS.isub X101.here hx rfl (hb hby at_118) rfl ?_
    refine XS.istore X101.here hx rfl (hb hby at_119) rfl (l' := #[sI p0, sI p1, sI p2, sI p3, sI p4, sI p5, sR ob, sR oa, sI va, sI vb, sI 4, sI 4, sR ow, sR oo101, sI 0]) rfl ?_
    refine XS.aload X101.here hx rfl (hb hby at_121) rfl rfl ?_
    exact k)
  obtain ⟨sE103, sd103, sN103, sk103, sv103, sV103, sC103, sK103, sc103, sb103, sl103⟩ := id g101_0
  obtain ⟨cq102, kq102, q102a, q102b, q102c⟩ := isOf hZ101 e101 g101_0.1
  obtain ⟨_, _, ⟨T102, L102, k102, n102⟩, -, X102, ⟨Lc102, hQ102, l102, y102, z102⟩, st102⟩ := X101.virtualBack hx (y := own_mn11) (z := own_mn11) hown101 (mvT hZ101 (own_i hw 112 rfl)) (mvT hZ101 (own_i hw 67 rfl)) (notFace_of_selects (args := #[]) (mvT hZ101 (own_i hw 69 rfl))) (mvT hZ101 (own_i hw 69 rfl)) (mvT hZ101 (own_i hw 68 rfl)) (by decide) (StrChars.Road.lenW (W := 0) hZ101 (own_hln hw) (kI := 4) (own_i hw 2 rfl) sE103 sV103 sC103 sK103 sc103 sb103 (O2.ext Xo101.2) P5 sl103 (by decide) (by decide)) q102a q102c (g := (mkF m 123 #[sI p0, sI p1, sI p2, sI p3, sI p4, sI p5, sR ob, sR oa, sI va, sI vb, sI 4, sI 4, sR ow, sR oo101, sI 0] [(.ref oo101)])) rfl (by rw [hml]; rfl) (Steps.refl _) (argsL := []) (rest := []) (lenOf own_pd2 rfl) rfl (by show 2 * 0 + _ ≤ _; exact Nat.le_of_eq rfl) (hb hby at_123) (fun _ _ => ⟨rfl, e101, (by decide : 7 + 0 ≤ _), (by decide : 24 + 0 ≤ _)⟩)
  dsimp only [own_R, Pt.U, Pt.locs, Pt.cells, Pt.slots] at X102 l102 y102 z102 st102 hQ102
  subst y102 z102
  obtain ⟨hv102, hL102, hh102⟩ := hQ102
  subst hL102
  have N102 : Fr n0 L102 := by rw [l102]; exact Fr.app N101 (Fr.nil n0)
  subst hv102
  refine own_to ?_ (fun t k => st102.trans k)
  refine own_to (V := T102.setTop (mkF m 142 #[sI p0, sI p1, sI p2, sI p3, sI p4, sI p5, sR ob, sR oa, sI va, sI vb, sI 4, sI 4, sR ow, sR oo101, sI 0] [(.int 0), (.int 4), (.ref ob), (.int 0), (.ref oo101)])) ?_ fun t k => (by
    refine XS.iload X102.here hx rfl (hb hby at_126) rfl ?_
    refine XS.icmpYes X102.here hx rfl (pc0 := 128) (pc' := 133) rfl (hb hby at_128) rfl (teq ((by decide) : (0 : Int32) = (0 : Int32))).1 (by decide) (by decide) ?_
    refine XS.aload X102.here hx rfl (hb hby at_133) rfl rfl ?_
    refine XS.iconst X102.here hx rfl (hb hby at_135) ?_
    refine XS.aload X102.here hx rfl (hb hby at_136) rfl rfl ?_
    refine XS.iload X102.here hx rfl (hb hby at_138) rfl ?_
    refine XS.iload X102.here hx rfl (hb hby at_140) rfl ?_
    exact k)
  obtain ⟨_, T104, h104, L104, Lc104, X104, e104, hQ104, l104, st104⟩ := own_cS (own_rmsm l Z a0 hw hst [] (.ref oo101) (0 : Int32) (.ref ob) (4 : Int32) (0 : Int32) h101 n0 Xo101 rfl rfl (by first | assumption | decide | omega | (simp; done) | rfl)) X102 hx hZ101 hown101 hh102 (own_i hw 113 rfl) (own_i hw 114 rfl) (own_i hw 115 rfl) (own_i hw 116 rfl) (by decide) (g := (mkF m 142 #[sI p0, sI p1, sI p2, sI p3, sI p4, sI p5, sR ob, sR oa, sI va, sI vb, sI 4, sI 4, sR ow, sR oo101, sI 0] [(.int 0), (.int 4), (.ref ob), (.int 0), (.ref oo101)])) rfl (by rw [hml]; rfl) (argsL := [(.ref oo101), (.int 0), (.ref ob), (.int 4), (.int 0)]) (rest := []) (lenOf own_pd13 rfl) rfl rfl (hb hby at_142) (W := 0) (Nat.le_of_eq rfl) (K := 7) (N := 24) rfl rfl (by decide) (by decide) (by decide) (by decide)
  obtain ⟨hv104, N104q, K104⟩ := hQ104
  subst hv104
  have Cs104 : CHr Z consts_1 T101.vm h101 T101.vm h104 := CHr.keep K104 sf0 Ch101.1
  have Ch104 := Ch101.trans Cs104
  have Xo104 := Xo101.keep K104 all0
  have KK104 := KK101.trans K104 all0
  have N104 := l104 _ N102 N104q
  refine own_to ?_ st104
  refine own_to (V := T104.setTop (mkF m 157 #[sI p0, sI p1, sI p2, sI p3, sI p4, sI p5, sR ob, sR oa, sI va, sI vb, sI 4, sI 4, sR ow, sR oo101, sI 0] [(.int 0), (.int 4), (.ref ob), (.int 1), (.ref oo101)])) ?_ fun t k => (by
    refine XS.ifNo X104.here hx rfl (hb hby at_145) rfl ((if0 _ _).trans (feq ((by decide) : ¬ ((1 : Int32) = (0 : Int32)))).1) ?_
    refine XS.aload X104.here hx rfl (hb hby at_148) rfl rfl ?_
    refine XS.iconst X104.here hx rfl (hb hby at_150) ?_
    refine XS.aload X104.here hx rfl (hb hby at_151) rfl rfl ?_
    refine XS.iload X104.here hx rfl (hb hby at_153) rfl ?_
    refine XS.iload X104.here hx rfl (hb hby at_155) rfl ?_
    exact k)
  obtain ⟨_, T105, h105, L105, Lc105, X105, e105, hQ105, l105, st105⟩ := own_cS (own_rmsm l Z a0 hw hst [] (.ref oo101) (1 : Int32) (.ref ob) (4 : Int32) (0 : Int32) h104 n0 Xo104 rfl rfl (by first | assumption | decide | omega | (simp; done) | rfl)) X104 hx hZ101 hown101 e104 (own_i hw 113 rfl) (own_i hw 114 rfl) (own_i hw 115 rfl) (own_i hw 116 rfl) (by decide) (g := (mkF m 157 #[sI p0, sI p1, sI p2, sI p3, sI p4, sI p5, sR ob, sR oa, sI va, sI vb, sI 4, sI 4, sR ow, sR oo101, sI 0] [(.int 0), (.int 4), (.ref ob), (.int 1), (.ref oo101)])) rfl (by rw [hml]; rfl) (argsL := [(.ref oo101), (.int 1), (.ref ob), (.int 4), (.int 0)]) (rest := []) (lenOf own_pd13 rfl) rfl rfl (hb hby at_157) (W := 0) (Nat.le_of_eq rfl) (K := 7) (N := 24) rfl rfl (by decide) (by decide) (by decide) (by decide)
  obtain ⟨hv105, N105q, K105⟩ := hQ105
  subst hv105
  have Cs105 : CHr Z consts_1 T101.vm h104 T101.vm h105 := CHr.keep K105 sf0 Ch104.1
  have Ch105 := Ch104.trans Cs105
  have Xo105 := Xo104.keep K105 all0
  have KK105 := KK104.trans K105 all0
  have N105 := l105 _ N104 N105q
  refine own_to ?_ st105
  refine own_to (V := T105.setTop (mkF m 172 #[sI p0, sI p1, sI p2, sI p3, sI p4, sI p5, sR ob, sR oa, sI va, sI vb, sI 4, sI 4, sR ow, sR oo101, sI 0] [(.int 0), (.int 4), (.ref ob), (.int 2), (.ref oo101)])) ?_ fun t k => (by
    refine XS.ifNo X105.here hx rfl (hb hby at_160) rfl ((if0 _ _).trans (feq ((by decide) : ¬ ((1 : Int32) = (0 : Int32)))).1) ?_
    refine XS.aload X105.here hx rfl (hb hby at_163) rfl rfl ?_
    refine XS.iconst X105.here hx rfl (hb hby at_165) ?_
    refine XS.aload X105.here hx rfl (hb hby at_166) rfl rfl ?_
    refine XS.iload X105.here hx rfl (hb hby at_168) rfl ?_
    refine XS.iload X105.here hx rfl (hb hby at_170) rfl ?_
    exact k)
  obtain ⟨_, T106, h106, L106, Lc106, X106, e106, hQ106, l106, st106⟩ := own_cS (own_rmsm l Z a0 hw hst [] (.ref oo101) (2 : Int32) (.ref ob) (4 : Int32) (0 : Int32) h105 n0 Xo105 rfl rfl (by first | assumption | decide | omega | (simp; done) | rfl)) X105 hx hZ101 hown101 e105 (own_i hw 113 rfl) (own_i hw 114 rfl) (own_i hw 115 rfl) (own_i hw 116 rfl) (by decide) (g := (mkF m 172 #[sI p0, sI p1, sI p2, sI p3, sI p4, sI p5, sR ob, sR oa, sI va, sI vb, sI 4, sI 4, sR ow, sR oo101, sI 0] [(.int 0), (.int 4), (.ref ob), (.int 2), (.ref oo101)])) rfl (by rw [hml]; rfl) (argsL := [(.ref oo101), (.int 2), (.ref ob), (.int 4), (.int 0)]) (rest := []) (lenOf own_pd13 rfl) rfl rfl (hb hby at_172) (W := 0) (Nat.le_of_eq rfl) (K := 7) (N := 24) rfl rfl (by decide) (by decide) (by decide) (by decide)
  obtain ⟨hv106, N106q, K106⟩ := hQ106
  subst hv106
  have Cs106 : CHr Z consts_1 T101.vm h105 T101.vm h106 := CHr.keep K106 sf0 Ch105.1
  have Ch106 := Ch105.trans Cs106
  have Xo106 := Xo105.keep K106 all0
  have KK106 := KK105.trans K106 all0
  have N106 := l106 _ N105 N106q
  refine own_to ?_ st106
  refine own_to (V := T106.setTop (mkF m 187 #[sI p0, sI p1, sI p2, sI p3, sI p4, sI p5, sR ob, sR oa, sI va, sI vb, sI 4, sI 4, sR ow, sR oo101, sI 0] [(.int 0), (.int 4), (.ref ob), (.int 3), (.ref oo101)])) ?_ fun t k => (by
    refine XS.ifNo X106.here hx rfl (hb hby at_175) rfl ((if0 _ _).trans (feq ((by decide) : ¬ ((1 : Int32) = (0 : Int32)))).1) ?_
    refine XS.aload X106.here hx rfl (hb hby at_178) rfl rfl ?_
    refine XS.iconst X106.here hx rfl (hb hby at_180) ?_
    refine XS.aload X106.here hx rfl (hb hby at_181) rfl rfl ?_
    refine XS.iload X106.here hx rfl (hb hby at_183) rfl ?_
    refine XS.iload X106.here hx rfl (hb hby at_185) rfl ?_
    exact k)
  obtain ⟨_, T107, h107, L107, Lc107, X107, e107, hQ107, l107, st107⟩ := own_cS (own_rmsm l Z a0 hw hst [] (.ref oo101) (3 : Int32) (.ref ob) (4 : Int32) (0 : Int32) h106 n0 Xo106 rfl rfl (by first | assumption | decide | omega | (simp; done) | rfl)) X106 hx hZ101 hown101 e106 (own_i hw 113 rfl) (own_i hw 114 rfl) (own_i hw 115 rfl) (own_i hw 116 rfl) (by decide) (g := (mkF m 187 #[sI p0, sI p1, sI p2, sI p3, sI p4, sI p5, sR ob, sR oa, sI va, sI vb, sI 4, sI 4, sR ow, sR oo101, sI 0] [(.int 0), (.int 4), (.ref ob), (.int 3), (.ref oo101)])) rfl (by rw [hml]; rfl) (argsL := [(.ref oo101), (.int 3), (.ref ob), (.int 4), (.int 0)]) (rest := []) (lenOf own_pd13 rfl) rfl rfl (hb hby at_187) (W := 0) (Nat.le_of_eq rfl) (K := 7) (N := 24) rfl rfl (by decide) (by decide) (by decide) (by decide)
  obtain ⟨hv107, N107q, K107⟩ := hQ107
  subst hv107
  have Cs107 : CHr Z consts_1 T101.vm h106 T101.vm h107 := CHr.keep K107 sf0 Ch106.1
  have Ch107 := Ch106.trans Cs107
  have Xo107 := Xo106.keep K107 all0
  have KK107 := KK106.trans K107 all0
  have N107 := l107 _ N106 N107q
  refine own_to ?_ st107
  refine own_to (V := T107.setTop (mkF m 198 #[sI p0, sI p1, sI p2, sI p3, sI p4, sI p5, sR ob, sR oa, sI va, sI vb, sI 4, sI 4, sR ow, sR oo101, sI 0] [(.int 1)])) ?_ fun t k => (by
    refine XS.ifNo X107.here hx rfl (hb hby at_190) rfl ((if0 _ _).trans (feq ((by decide) : ¬ ((1 : Int32) = (0 : Int32)))).1) ?_
    refine XS.iconst X107.here hx rfl (hb hby at_193) ?_
    refine XS.goto X107.here hx rfl (pc0 := 194) (pc' := 198) rfl (hb hby at_194) (by decide) (by decide) ?_
    exact k)
  exact own_retNH X107 hx hS101 (own_hk e107 (Nat.le_trans (Nat.le_trans (Nat.le_trans (Nat.le_trans hk101 K104.1) K105.1) K106.1) K107.1)) (by rw [e107, hh]; exact Ch107.trans (CHv.at X107 hZ101 (own_hEL hw) Ch107.1)) (t := .boolean) (w := (1 : Int32)) hret (by decide) rfl hlk (hb hby at_198) (by rw [e107]; exact (⟨rfl, N107, KK107⟩)) (by decide) (by decide)
theorem own_sglawA (l : Launch) (Z : State) (a0 : Array Value) (hw : ∀ d ∈ tables_1, d.before a0 Z = true) (hst : own_St Z) (p0 p1 p2 p3 p4 p5 : Int32) (h0 : Heap) (n0 : Nat) (ob : Addr) (kb : ClassId) (oa : Addr) (ua : Addr) (va : Int32) (vb : Int32) (c0 : Int32) (c1 : Int32) (c2 : Int32) (c3 : Int32) (vlo : Int32) (vhi : Int32)
    {p : Program} {e : Env} {s : State} {m : MethodId} {args : Array Value} {below : List Frame} {meth : Method} {c : Code} (hx : p.tables.exec = Jvm.exec) (hby : c.code = code) (hret : meth.sig.returnType = ret) (hlk : meth.locks = false) (hml : c.maxLocals = 15) (hnm : meth.name = "law") {vm0 : Vm} {k0 : Nat} (hS0 : s.Since vm0 k0) (hh : s.heap = h0) (hZ : Z.Warmed39 (s.setVm vm0).vm) (hown : (s.setVm vm0).vm.findClass "com/example/capstrike/capstrike/TermTextToStringPinLaw" = some m.cls)
    {T0 : State} {locs : List Loc} {h : Heap} (X0 : Stand p l e room_1 (s.setVm vm0) m args below meth c T0 locs 3 12) (e0 : T0.heap = h) (hk0 : k0 ≤ h.size) (Ch0 : CHr Z consts_1 s.vm h0 vm0 h) (N0 : Fr n0 locs) (Xo0 : Old Z n0 h) (KK0 : Keep h0 h []) (l0 : ¬ c0 < 0 ∧ ¬ (255 : Int32) < c0) (l1 : ¬ c1 < 0 ∧ ¬ (255 : Int32) < c1) (l2 : ¬ c2 < 0 ∧ ¬ (255 : Int32) < c2) (l3 : ¬ c3 < 0 ∧ ¬ (255 : Int32) < c3) (hS : own_Str Z h oa ua ([c0, c1, c2, c3] : List Int32)) (hA : Arv Z h ob kb .char (4 : Int32) [(.int c0), (.int c1), (.int c2), (.int c3)] (.int (0 : Int32))) (hlh : (vlo = (0 : Int32) ∧ vhi = (0 : Int32)) ∨ (vlo = (0 : Int32) ∧ vhi = (1 : Int32)) ∨ (vlo = (0 : Int32) ∧ vhi = (2 : Int32)) ∨ (vlo = (0 : Int32) ∧ vhi = (3 : Int32)) ∨ (vlo = (0 : Int32) ∧ vhi = (4 : Int32)) ∨ (vlo = (1 : Int32) ∧ vhi = (1 : Int32)) ∨ (vlo = (1 : Int32) ∧ vhi = (2 : Int32)) ∨ (vlo = (1 : Int32) ∧ vhi = (3 : Int32)) ∨ (vlo = (1 : Int32) ∧ vhi = (4 : Int32)) ∨ (vlo = (2 : Int32) ∧ vhi = (2 : Int32)) ∨ (vlo = (2 : Int32) ∧ vhi = (3 : Int32)) ∨ (vlo = (2 : Int32) ∧ vhi = (4 : Int32)) ∨ (vlo = (3 : Int32) ∧ vhi = (3 : Int32)) ∨ (vlo = (3 : Int32) ∧ vhi = (4 : Int32)) ∨ (vlo = (4 : Int32) ∧ vhi = (4 : Int32))) :
    own_Go p e below (own_PostH Z s (own_Qlaw Z p0 p1 p2 p3 p4 p5 h0 n0) room_1.cells room_1.slots) (T0.setTop (mkF m 92 #[sI p0, sI p1, sI p2, sI p3, sI p4, sI p5, sR ob, sR oa, sI va, sI vb, sI vlo, sI vhi, .unset, .unset, .unset] [])) := by
  obtain ⟨⟨G1, O2, P5⟩, ⟨G3, O4, rG3⟩, -⟩ := id hst
  obtain ⟨T101, h101, X101, e101, E101, A101, D101, U101, st101⟩ := newO X0 hx hZ hown (own_i hw 38 rfl) (own_i hw 39 rfl) (own_i hw 40 rfl) e0 (g := (mkF m 92 #[sI p0, sI p1, sI p2, sI p3, sI p4, sI p5, sR ob, sR oa, sI va, sI vb, sI vlo, sI vhi, .unset, .unset, .unset] [])) rfl (hb hby at_92) (by decide) (by decide)
  obtain ⟨b101, g101⟩ : ∃ z, z = h.size := ⟨_, rfl⟩
  rw [← g101] at A101 D101 U101 st101
  have Cs101 : CHr Z consts_1 vm0 h vm0 h101 := CHr.ext E101 Ch0.1
  have Ch101 := Ch0.trans Cs101
  have Xo101 := Xo0.ext E101
  have KK101 := KK0.ext E101
  have ge_b101 := Nat.le_trans (own_ole Xo0) (Nat.le_of_eq g101.symm)
  have sz_b101 := Nat.le_trans KK0.1 (Nat.le_of_eq g101.symm)
  have Sf_b101 : Safe Z consts_1 vm0 h101 b101 := Safe.ext E101 Ch0.1 (Safe.new (Nat.le_of_eq g101.symm))
  have Fi101_51 : Fld Z h101 b101 nm1 "text" nm2 .null := D101 (Or.inr (own_i hw 51 rfl)) (ty := (.object "java/lang/String")) (by decide)
  have Fi101_53 : Fld Z h101 b101 nm1 "start" "I" (.int 0) := D101 (Or.inr (own_i hw 53 rfl)) (ty := .int) (by decide)
  have Fi101_55 : Fld Z h101 b101 nm1 "end" "I" (.int 0) := D101 (Or.inr (own_i hw 55 rfl)) (ty := .int) (by decide)
  refine own_to ?_ st101
  refine own_to (V := T101.setTop (mkF m 102 #[sI p0, sI p1, sI p2, sI p3, sI p4, sI p5, sR ob, sR oa, sI va, sI vb, sI vlo, sI vhi, .unset, .unset, .unset] [(.int vhi), (.int vlo), (.ref oa), (.ref b101), (.ref b101)])) ?_ fun t k => (by
    refine XS.dup X101.here hx rfl (hb hby at_95) rfl rfl ?_
    refine XS.aload X101.here hx rfl (hb hby at_96) rfl rfl ?_
    refine XS.iload X101.here hx rfl (hb hby at_98) rfl ?_
    refine XS.iload X101.here hx rfl (hb hby at_100) rfl ?_
    exact k)
  obtain ⟨_, T102, h102, L102, Lc102, X102, e102, hQ102, l102, st102⟩ := own_cI (own_rmwini l Z a0 hw hst [] b101 (.ref oa) vlo vhi h101 n0 Xo101 rfl A101 Fi101_51 Fi101_53 Fi101_55 ge_b101) X101 hx hZ hown e101 rfl (own_i hw 41 rfl) (own_i hw 42 rfl) (own_i hw 40 rfl) (own_i hw 43 rfl) (by decide) (g := (mkF m 102 #[sI p0, sI p1, sI p2, sI p3, sI p4, sI p5, sR ob, sR oa, sI va, sI vb, sI vlo, sI vhi, .unset, .unset, .unset] [(.int vhi), (.int vlo), (.ref oa), (.ref b101), (.ref b101)])) rfl (by rw [hml]; rfl) (argsL := [(.ref oa), (.int vlo), (.int vhi)]) (rest := [(.ref b101)]) (lenOf own_pd14 rfl) rfl rfl (hb hby at_102) (W := 1) (Nat.le_of_eq rfl) (K := 4) (N := 15) rfl rfl (by decide) (by decide) (by decide) (by decide)
  obtain ⟨hv102, N102q, K102, g102_0, g102_1, g102_2⟩ := hQ102
  subst hv102
  have Cs102 : CHr Z consts_1 vm0 h101 vm0 h102 := CHr.keep K102 (sfS (Safe.exa hZ.alike A101 (by decide) (by decide)) sf0) Ch101.1
  have Ch102 := Ch101.trans Cs102
  have Xo102 := Xo101.keep K102 (allS ge_b101 all0)
  have KK102 := KK101.trans K102 (allS (Or.inr sz_b101) all0)
  have N102 := l102 _ N0 N102q
  refine own_to ?_ st102
  refine own_to (V := T102.setTop (mkF m 107 #[sI p0, sI p1, sI p2, sI p3, sI p4, sI p5, sR ob, sR oa, sI va, sI vb, sI vlo, sI vhi, sR b101, .unset, .unset] [])) ?_ fun t k => (by
    refine XS.astore X102.here hx rfl (hb hby at_105) rfl rfl (l' := #[sI p0, sI p1, sI p2, sI p3, sI p4, sI p5, sR ob, sR oa, sI va, sI vb, sI vlo, sI vhi, sR b101, .unset, .unset]) rfl ?_
    exact k)
  rcases hlh with ⟨rfl, rfl⟩ | ⟨rfl, rfl⟩ | ⟨rfl, rfl⟩ | ⟨rfl, rfl⟩ | ⟨rfl, rfl⟩ | ⟨rfl, rfl⟩ | ⟨rfl, rfl⟩ | ⟨rfl, rfl⟩ | ⟨rfl, rfl⟩ | ⟨rfl, rfl⟩ | ⟨rfl, rfl⟩ | ⟨rfl, rfl⟩ | ⟨rfl, rfl⟩ | ⟨rfl, rfl⟩ | ⟨rfl, rfl⟩
  ·skip
   have F103 := ((hS.ext E101).keep K102 (own_nmS (Nat.ne_of_lt (Nat.lt_of_lt_of_le hS.lt (Nat.le_of_eq g101.symm))) own_nm0) (own_nmS (Nat.ne_of_lt (Nat.lt_of_lt_of_le hS.lt2 (Nat.le_of_eq g101.symm))) own_nm0))
   have F104 := ((hA.ext E101).keep K102 (own_nmS (Nat.ne_of_lt (Nat.lt_of_lt_of_le hA.lt (Nat.le_of_eq g101.symm))) own_nm0))
   have F105 := (A101.keep K102)
   exact own_sglaw00 l Z a0 hw hst p0 p1 p2 p3 p4 p5 h0 n0 ob kb oa ua va vb c0 c1 c2 c3 b101 hx hby hret hlk hml hnm hS0 hh hZ hown (X102.wide (L' := _) (cells' := 5) (slots' := 20) (fun x hx _ => hx) (by decide) (by decide)) e102 (Nat.le_trans (Nat.le_trans hk0 E101.1) K102.1) Ch102 N102 Xo102 KK102 l0 l1 l2 l3 F103 F104 F105 g102_0 g102_1 g102_2
  ·skip
   have F106 := ((hS.ext E101).keep K102 (own_nmS (Nat.ne_of_lt (Nat.lt_of_lt_of_le hS.lt (Nat.le_of_eq g101.symm))) own_nm0) (own_nmS (Nat.ne_of_lt (Nat.lt_of_lt_of_le hS.lt2 (Nat.le_of_eq g101.symm))) own_nm0))
   have F107 := ((hA.ext E101).keep K102 (own_nmS (Nat.ne_of_lt (Nat.lt_of_lt_of_le hA.lt (Nat.le_of_eq g101.symm))) own_nm0))
   have F108 := (A101.keep K102)
   exact own_sglaw01 l Z a0 hw hst p0 p1 p2 p3 p4 p5 h0 n0 ob kb oa ua va vb c0 c1 c2 c3 b101 hx hby hret hlk hml hnm hS0 hh hZ hown (X102.wide (L' := _) (cells' := 5) (slots' := 20) (fun x hx _ => hx) (by decide) (by decide)) e102 (Nat.le_trans (Nat.le_trans hk0 E101.1) K102.1) Ch102 N102 Xo102 KK102 l0 l1 l2 l3 F106 F107 F108 g102_0 g102_1 g102_2
  ·skip
   have F109 := ((hS.ext E101).keep K102 (own_nmS (Nat.ne_of_lt (Nat.lt_of_lt_of_le hS.lt (Nat.le_of_eq g101.symm))) own_nm0) (own_nmS (Nat.ne_of_lt (Nat.lt_of_lt_of_le hS.lt2 (Nat.le_of_eq g101.symm))) own_nm0))
   have F110 := ((hA.ext E101).keep K102 (own_nmS (Nat.ne_of_lt (Nat.lt_of_lt_of_le hA.lt (Nat.le_of_eq g101.symm))) own_nm0))
   have F111 := (A101.keep K102)
   exact own_sglaw02 l Z a0 hw hst p0 p1 p2 p3 p4 p5 h0 n0 ob kb oa ua va vb c0 c1 c2 c3 b101 hx hby hret hlk hml hnm hS0 hh hZ hown (X102.wide (L' := _) (cells' := 5) (slots' := 20) (fun x hx _ => hx) (by decide) (by decide)) e102 (Nat.le_trans (Nat.le_trans hk0 E101.1) K102.1) Ch102 N102 Xo102 KK102 l0 l1 l2 l3 F109 F110 F111 g102_0 g102_1 g102_2
  ·skip
   have F112 := ((hS.ext E101).keep K102 (own_nmS (Nat.ne_of_lt (Nat.lt_of_lt_of_le hS.lt (Nat.le_of_eq g101.symm))) own_nm0) (own_nmS (Nat.ne_of_lt (Nat.lt_of_lt_of_le hS.lt2 (Nat.le_of_eq g101.symm))) own_nm0))
   have F113 := ((hA.ext E101).keep K102 (own_nmS (Nat.ne_of_lt (Nat.lt_of_lt_of_le hA.lt (Nat.le_of_eq g101.symm))) own_nm0))
   have F114 := (A101.keep K102)
   exact own_sglaw03 l Z a0 hw hst p0 p1 p2 p3 p4 p5 h0 n0 ob kb oa ua va vb c0 c1 c2 c3 b101 hx hby hret hlk hml hnm hS0 hh hZ hown (X102.wide (L' := _) (cells' := 5) (slots' := 20) (fun x hx _ => hx) (by decide) (by decide)) e102 (Nat.le_trans (Nat.le_trans hk0 E101.1) K102.1) Ch102 N102 Xo102 KK102 l0 l1 l2 l3 F112 F113 F114 g102_0 g102_1 g102_2
  ·skip
   have F115 := ((hS.ext E101).keep K102 (own_nmS (Nat.ne_of_lt (Nat.lt_of_lt_of_le hS.lt (Nat.le_of_eq g101.symm))) own_nm0) (own_nmS (Nat.ne_of_lt (Nat.lt_of_lt_of_le hS.lt2 (Nat.le_of_eq g101.symm))) own_nm0))
   have F116 := ((hA.ext E101).keep K102 (own_nmS (Nat.ne_of_lt (Nat.lt_of_lt_of_le hA.lt (Nat.le_of_eq g101.symm))) own_nm0))
   have F117 := (A101.keep K102)
   exact own_sglaw04 l Z a0 hw hst p0 p1 p2 p3 p4 p5 h0 n0 ob kb oa ua va vb c0 c1 c2 c3 b101 hx hby hret hlk hml hnm hS0 hh hZ hown (X102.wide (L' := _) (cells' := 5) (slots' := 20) (fun x hx _ => hx) (by decide) (by decide)) e102 (Nat.le_trans (Nat.le_trans hk0 E101.1) K102.1) Ch102 N102 Xo102 KK102 l0 l1 l2 l3 F115 F116 F117 g102_0 g102_1 g102_2
  ·skip
   have F118 := ((hS.ext E101).keep K102 (own_nmS (Nat.ne_of_lt (Nat.lt_of_lt_of_le hS.lt (Nat.le_of_eq g101.symm))) own_nm0) (own_nmS (Nat.ne_of_lt (Nat.lt_of_lt_of_le hS.lt2 (Nat.le_of_eq g101.symm))) own_nm0))
   have F119 := ((hA.ext E101).keep K102 (own_nmS (Nat.ne_of_lt (Nat.lt_of_lt_of_le hA.lt (Nat.le_of_eq g101.symm))) own_nm0))
   have F120 := (A101.keep K102)
   exact own_sglaw11 l Z a0 hw hst p0 p1 p2 p3 p4 p5 h0 n0 ob kb oa ua va vb c0 c1 c2 c3 b101 hx hby hret hlk hml hnm hS0 hh hZ hown (X102.wide (L' := _) (cells' := 5) (slots' := 20) (fun x hx _ => hx) (by decide) (by decide)) e102 (Nat.le_trans (Nat.le_trans hk0 E101.1) K102.1) Ch102 N102 Xo102 KK102 l0 l1 l2 l3 F118 F119 F120 g102_0 g102_1 g102_2
  ·skip
   have F121 := ((hS.ext E101).keep K102 (own_nmS (Nat.ne_of_lt (Nat.lt_of_lt_of_le hS.lt (Nat.le_of_eq g101.symm))) own_nm0) (own_nmS (Nat.ne_of_lt (Nat.lt_of_lt_of_le hS.lt2 (Nat.le_of_eq g101.symm))) own_nm0))
   have F122 := ((hA.ext E101).keep K102 (own_nmS (Nat.ne_of_lt (Nat.lt_of_lt_of_le hA.lt (Nat.le_of_eq g101.symm))) own_nm0))
   have F123 := (A101.keep K102)
   exact own_sglaw12 l Z a0 hw hst p0 p1 p2 p3 p4 p5 h0 n0 ob kb oa ua va vb c0 c1 c2 c3 b101 hx hby hret hlk hml hnm hS0 hh hZ hown (X102.wide (L' := _) (cells' := 5) (slots' := 20) (fun x hx _ => hx) (by decide) (by decide)) e102 (Nat.le_trans (Nat.le_trans hk0 E101.1) K102.1) Ch102 N102 Xo102 KK102 l0 l1 l2 l3 F121 F122 F123 g102_0 g102_1 g102_2
  ·skip
   have F124 := ((hS.ext E101).keep K102 (own_nmS (Nat.ne_of_lt (Nat.lt_of_lt_of_le hS.lt (Nat.le_of_eq g101.symm))) own_nm0) (own_nmS (Nat.ne_of_lt (Nat.lt_of_lt_of_le hS.lt2 (Nat.le_of_eq g101.symm))) own_nm0))
   have F125 := ((hA.ext E101).keep K102 (own_nmS (Nat.ne_of_lt (Nat.lt_of_lt_of_le hA.lt (Nat.le_of_eq g101.symm))) own_nm0))
   have F126 := (A101.keep K102)
   exact own_sglaw13 l Z a0 hw hst p0 p1 p2 p3 p4 p5 h0 n0 ob kb oa ua va vb c0 c1 c2 c3 b101 hx hby hret hlk hml hnm hS0 hh hZ hown (X102.wide (L' := _) (cells' := 5) (slots' := 20) (fun x hx _ => hx) (by decide) (by decide)) e102 (Nat.le_trans (Nat.le_trans hk0 E101.1) K102.1) Ch102 N102 Xo102 KK102 l0 l1 l2 l3 F124 F125 F126 g102_0 g102_1 g102_2
  ·skip
   have F127 := ((hS.ext E101).keep K102 (own_nmS (Nat.ne_of_lt (Nat.lt_of_lt_of_le hS.lt (Nat.le_of_eq g101.symm))) own_nm0) (own_nmS (Nat.ne_of_lt (Nat.lt_of_lt_of_le hS.lt2 (Nat.le_of_eq g101.symm))) own_nm0))
   have F128 := ((hA.ext E101).keep K102 (own_nmS (Nat.ne_of_lt (Nat.lt_of_lt_of_le hA.lt (Nat.le_of_eq g101.symm))) own_nm0))
   have F129 := (A101.keep K102)
   exact own_sglaw14 l Z a0 hw hst p0 p1 p2 p3 p4 p5 h0 n0 ob kb oa ua va vb c0 c1 c2 c3 b101 hx hby hret hlk hml hnm hS0 hh hZ hown (X102.wide (L' := _) (cells' := 5) (slots' := 20) (fun x hx _ => hx) (by decide) (by decide)) e102 (Nat.le_trans (Nat.le_trans hk0 E101.1) K102.1) Ch102 N102 Xo102 KK102 l0 l1 l2 l3 F127 F128 F129 g102_0 g102_1 g102_2
  ·skip
   have F130 := ((hS.ext E101).keep K102 (own_nmS (Nat.ne_of_lt (Nat.lt_of_lt_of_le hS.lt (Nat.le_of_eq g101.symm))) own_nm0) (own_nmS (Nat.ne_of_lt (Nat.lt_of_lt_of_le hS.lt2 (Nat.le_of_eq g101.symm))) own_nm0))
   have F131 := ((hA.ext E101).keep K102 (own_nmS (Nat.ne_of_lt (Nat.lt_of_lt_of_le hA.lt (Nat.le_of_eq g101.symm))) own_nm0))
   have F132 := (A101.keep K102)
   exact own_sglaw22 l Z a0 hw hst p0 p1 p2 p3 p4 p5 h0 n0 ob kb oa ua va vb c0 c1 c2 c3 b101 hx hby hret hlk hml hnm hS0 hh hZ hown (X102.wide (L' := _) (cells' := 5) (slots' := 20) (fun x hx _ => hx) (by decide) (by decide)) e102 (Nat.le_trans (Nat.le_trans hk0 E101.1) K102.1) Ch102 N102 Xo102 KK102 l0 l1 l2 l3 F130 F131 F132 g102_0 g102_1 g102_2
  ·skip
   have F133 := ((hS.ext E101).keep K102 (own_nmS (Nat.ne_of_lt (Nat.lt_of_lt_of_le hS.lt (Nat.le_of_eq g101.symm))) own_nm0) (own_nmS (Nat.ne_of_lt (Nat.lt_of_lt_of_le hS.lt2 (Nat.le_of_eq g101.symm))) own_nm0))
   have F134 := ((hA.ext E101).keep K102 (own_nmS (Nat.ne_of_lt (Nat.lt_of_lt_of_le hA.lt (Nat.le_of_eq g101.symm))) own_nm0))
   have F135 := (A101.keep K102)
   exact own_sglaw23 l Z a0 hw hst p0 p1 p2 p3 p4 p5 h0 n0 ob kb oa ua va vb c0 c1 c2 c3 b101 hx hby hret hlk hml hnm hS0 hh hZ hown (X102.wide (L' := _) (cells' := 5) (slots' := 20) (fun x hx _ => hx) (by decide) (by decide)) e102 (Nat.le_trans (Nat.le_trans hk0 E101.1) K102.1) Ch102 N102 Xo102 KK102 l0 l1 l2 l3 F133 F134 F135 g102_0 g102_1 g102_2
  ·skip
   have F136 := ((hS.ext E101).keep K102 (own_nmS (Nat.ne_of_lt (Nat.lt_of_lt_of_le hS.lt (Nat.le_of_eq g101.symm))) own_nm0) (own_nmS (Nat.ne_of_lt (Nat.lt_of_lt_of_le hS.lt2 (Nat.le_of_eq g101.symm))) own_nm0))
   have F137 := ((hA.ext E101).keep K102 (own_nmS (Nat.ne_of_lt (Nat.lt_of_lt_of_le hA.lt (Nat.le_of_eq g101.symm))) own_nm0))
   have F138 := (A101.keep K102)
   exact own_sglaw24 l Z a0 hw hst p0 p1 p2 p3 p4 p5 h0 n0 ob kb oa ua va vb c0 c1 c2 c3 b101 hx hby hret hlk hml hnm hS0 hh hZ hown (X102.wide (L' := _) (cells' := 5) (slots' := 20) (fun x hx _ => hx) (by decide) (by decide)) e102 (Nat.le_trans (Nat.le_trans hk0 E101.1) K102.1) Ch102 N102 Xo102 KK102 l0 l1 l2 l3 F136 F137 F138 g102_0 g102_1 g102_2
  ·skip
   have F139 := ((hS.ext E101).keep K102 (own_nmS (Nat.ne_of_lt (Nat.lt_of_lt_of_le hS.lt (Nat.le_of_eq g101.symm))) own_nm0) (own_nmS (Nat.ne_of_lt (Nat.lt_of_lt_of_le hS.lt2 (Nat.le_of_eq g101.symm))) own_nm0))
   have F140 := ((hA.ext E101).keep K102 (own_nmS (Nat.ne_of_lt (Nat.lt_of_lt_of_le hA.lt (Nat.le_of_eq g101.symm))) own_nm0))
   have F141 := (A101.keep K102)
   exact own_sglaw33 l Z a0 hw hst p0 p1 p2 p3 p4 p5 h0 n0 ob kb oa ua va vb c0 c1 c2 c3 b101 hx hby hret hlk hml hnm hS0 hh hZ hown (X102.wide (L' := _) (cells' := 5) (slots' := 20) (fun x hx _ => hx) (by decide) (by decide)) e102 (Nat.le_trans (Nat.le_trans hk0 E101.1) K102.1) Ch102 N102 Xo102 KK102 l0 l1 l2 l3 F139 F140 F141 g102_0 g102_1 g102_2
  ·skip
   have F142 := ((hS.ext E101).keep K102 (own_nmS (Nat.ne_of_lt (Nat.lt_of_lt_of_le hS.lt (Nat.le_of_eq g101.symm))) own_nm0) (own_nmS (Nat.ne_of_lt (Nat.lt_of_lt_of_le hS.lt2 (Nat.le_of_eq g101.symm))) own_nm0))
   have F143 := ((hA.ext E101).keep K102 (own_nmS (Nat.ne_of_lt (Nat.lt_of_lt_of_le hA.lt (Nat.le_of_eq g101.symm))) own_nm0))
   have F144 := (A101.keep K102)
   exact own_sglaw34 l Z a0 hw hst p0 p1 p2 p3 p4 p5 h0 n0 ob kb oa ua va vb c0 c1 c2 c3 b101 hx hby hret hlk hml hnm hS0 hh hZ hown (X102.wide (L' := _) (cells' := 5) (slots' := 20) (fun x hx _ => hx) (by decide) (by decide)) e102 (Nat.le_trans (Nat.le_trans hk0 E101.1) K102.1) Ch102 N102 Xo102 KK102 l0 l1 l2 l3 F142 F143 F144 g102_0 g102_1 g102_2
  ·skip
   have F145 := ((hS.ext E101).keep K102 (own_nmS (Nat.ne_of_lt (Nat.lt_of_lt_of_le hS.lt (Nat.le_of_eq g101.symm))) own_nm0) (own_nmS (Nat.ne_of_lt (Nat.lt_of_lt_of_le hS.lt2 (Nat.le_of_eq g101.symm))) own_nm0))
   have F146 := ((hA.ext E101).keep K102 (own_nmS (Nat.ne_of_lt (Nat.lt_of_lt_of_le hA.lt (Nat.le_of_eq g101.symm))) own_nm0))
   have F147 := (A101.keep K102)
   exact own_sglaw44 l Z a0 hw hst p0 p1 p2 p3 p4 p5 h0 n0 ob kb oa ua va vb c0 c1 c2 c3 b101 hx hby hret hlk hml hnm hS0 hh hZ hown (X102.wide (L' := _) (cells' := 5) (slots' := 20) (fun x hx _ => hx) (by decide) (by decide)) e102 (Nat.le_trans (Nat.le_trans hk0 E101.1) K102.1) Ch102 N102 Xo102 KK102 l0 l1 l2 l3 F145 F146 F147 g102_0 g102_1 g102_2
theorem own_ef_law (m : MethodId) (p0 : Int32) (p1 : Int32) (p2 : Int32) (p3 : Int32) (p4 : Int32) (p5 : Int32)  : entryFrame m #[(.int p0), (.int p1), (.int p2), (.int p3), (.int p4), (.int p5)] maxLocals = mkF m 0 #[sI p0, sI p1, sI p2, sI p3, sI p4, sI p5, .unset, .unset, .unset, .unset, .unset, .unset, .unset, .unset, .unset] [] := by first | (simp [entryFrame, mkF, argsToLocals, Value.category, maxLocals]; done) | rfl
theorem own_rmlaw (l : Launch) (Z : State) (a0 : Array Value) (hw : ∀ d ∈ tables_1, d.before a0 Z = true) (hst : own_St Z) (ws : List Jvm.Cond) (p0 p1 p2 p3 p4 p5 : Int32) (h0 : Heap) (n0 : Nat) (X00 : Old Z n0 h0)  :
    MetFree l x (head1 (Jvm.Cond.code x code maxLocals ret :: ws) room_1) (fun a U => a = #[(.int p0), (.int p1), (.int p2), (.int p3), (.int p4), (.int p5)] ∧ Z.Warmed39 U.vm ∧ U.heap = h0 ∧ CHv Z consts_1 U.vm h0) (fun _ _ _ _ _ => True) (fun _ U o U' => ∃ v L, o = .returned v ∧ own_Qlaw Z p0 p1 p2 p3 p4 p5 h0 n0 v U'.heap L ∧ CHr Z consts_1 U.vm U.heap U'.vm U'.heap ∧ ReturnedEndW U o U' L room_1.cells room_1.slots) := by
  refine MetFree.of_bodySF (plainFor_of_name own_pn6) hisR ?_
  intro p e s m args below meth c s₁ Bd hml0 hP hK
  obtain ⟨rfl, hZ, hh, hCH⟩ := hP
  have hx := Bd.exec
  have hby := Bd.bytes
  have hret := Bd.returns
  have hlk : meth.locks = false := BodyLoose.notSynchronized Bd
  have hml : c.maxLocals = 15 := hml0
  have hown : s.vm.findClass "com/example/capstrike/capstrike/TermTextToStringPinLaw" = some m.cls := findClass_of_methodNamed Bd.named
  have hnm := (name_of_methodNamed Bd.named Bd.method).1
  have X0 : Stand p l e room_1 (s.setVm s.vm) m #[(.int p0), (.int p1), (.int p2), (.int p3), (.int p4), (.int p5)] below meth c s₁ [] 0 0 := Stand.of_body Bd
  have e0 : s₁.heap = h0 := by rw [← hh, Bd.state]; rfl
  have N0 := Fr.nil n0
  have KK0 : Keep h0 h0 [] := Keep.refl h0 _
  have hS0 : s.Since s.vm 0 := (State.WarmedH.refl s).since 0
  have hk0 : 0 ≤ h0.size := Nat.zero_le _
  have Ch0 : CHr Z consts_1 s.vm h0 s.vm h0 := CHr.refl hCH
  refine own_startH (own_Qlaw Z p0 p1 p2 p3 p4 p5 h0 n0) ?_
  refine own_to (V := s₁.setTop (mkF m 0 #[sI p0, sI p1, sI p2, sI p3, sI p4, sI p5, .unset, .unset, .unset, .unset, .unset, .unset, .unset, .unset, .unset] [])) ?_ (fun t k => castTop (own_ef_law m p0 p1 p2 p3 p4 p5 ) k)
  obtain ⟨⟨G1, O2, P5⟩, ⟨G3, O4, rG3⟩, -⟩ := id hst
  refine own_to (V := s₁.setTop (mkF m 1 #[sI p0, sI p1, sI p2, sI p3, sI p4, sI p5, .unset, .unset, .unset, .unset, .unset, .unset, .unset, .unset, .unset] [(.int 4)])) ?_ fun t k => (by
    refine XS.iconst X0.here hx rfl (hb hby at_0) ?_
    exact k)
  obtain ⟨T101, h101, k101, X101, e101, E101, A101, st101⟩ := newP X0 hx hZ (own_i hw 0 rfl) e0 (g := (mkF m 1 #[sI p0, sI p1, sI p2, sI p3, sI p4, sI p5, .unset, .unset, .unset, .unset, .unset, .unset, .unset, .unset, .unset] [(.int 4)])) rfl (hb hby at_1) rfl (by decide) (cap := 4) (by decide) (by decide) (by decide) (by decide)
  obtain ⟨b101, g101⟩ : ∃ z, z = h0.size := ⟨_, rfl⟩
  rw [← g101] at A101 st101
  have Cs101 : CHr Z consts_1 s.vm h0 s.vm h101 := CHr.ext E101 Ch0.1
  have Ch101 := Ch0.trans Cs101
  have Xo101 := X00.ext E101
  have KK101 := KK0.ext E101
  have ge_b101 := Nat.le_trans (own_ole X00) (Nat.le_of_eq g101.symm)
  have sz_b101 := Nat.le_trans KK0.1 (Nat.le_of_eq g101.symm)
  have Sf_b101 : Safe Z consts_1 s.vm h101 b101 := Safe.ext E101 Ch0.1 (Safe.new (Nat.le_of_eq g101.symm))
  have V101 : Arv Z h101 b101 k101 .char (4 : Int32) [(.int 0), (.int 0), (.int 0), (.int 0)] (.int (0 : Int32)) := (Arv.new A101 (by decide)).pad (pad_rep [] (.int (0 : Int32)) 4)
  refine own_to ?_ st101
  obtain ⟨c102, hc102⟩ : ∃ z : Int32, z = ((p0 &&& (255 : Int32)).toUInt32.toUInt16.toUInt32.toInt32) := ⟨_, rfl⟩
  have rc_c102 : ¬ c102 < 0 ∧ ¬ (65535 : Int32) < c102 := by rw [hc102]; exact own_i2c_rng _
  have rb_c102 : ¬ c102 < 0 ∧ ¬ (255 : Int32) < c102 := by rw [hc102]; exact own_and255 _
  refine own_to (V := T101.setTop (mkF m 14 #[sI p0, sI p1, sI p2, sI p3, sI p4, sI p5, sR b101, .unset, .unset, .unset, .unset, .unset, .unset, .unset, .unset] [(.int c102), (.int 0), (.ref b101)])) ?_ fun t k => (by
    first | rw [hc102] at k | skip
    refine XS.astore X101.here hx rfl (hb hby at_3) rfl rfl (l' := #[sI p0, sI p1, sI p2, sI p3, sI p4, sI p5, sR b101, .unset, .unset, .unset, .unset, .unset, .unset, .unset, .unset]) rfl ?_
    refine XS.aload X101.here hx rfl (hb hby at_5) rfl rfl ?_
    refine XS.iconst X101.here hx rfl (hb hby at_7) ?_
    refine XS.iloadN X101.here hx rfl (hb hby at_8) rfl ?_
    refine XS.sipush X101.here hx rfl (hb hby at_9) ?_
    refine XS.iand X101.here hx rfl (hb hby at_12) rfl ?_
    refine XS.i2c X101.here hx rfl (hb hby at_13) rfl ?_
    exact k)
  obtain ⟨cl103, Ar103, q103, S103, M103, H103, G103⟩ := id V101
  obtain ⟨T103, h103, X103, e103, W103, st103⟩ := stC X101 hx hZ e101 Ar103 (j := (0 : Int32)) (inb_of S103 ⟨by decide, by decide⟩) (g := (mkF m 14 #[sI p0, sI p1, sI p2, sI p3, sI p4, sI p5, sR b101, .unset, .unset, .unset, .unset, .unset, .unset, .unset, .unset] [(.int c102), (.int 0), (.ref b101)])) rfl rfl (hb hby at_14)
  rw [own_narC rc_c102] at W103
  have Cs103 : CHr Z consts_1 s.vm h101 s.vm h103 := CHr.wr W103 (Safe.arv hZ.alike V101 (by decide)) Ch101.1
  have Ch103 := Ch101.trans Cs103
  have Xo103 := Xo101.wr W103 ge_b101
  have KK103 := KK101.wr W103 (Or.inr sz_b101)
  have V103 : Arv Z h103 b101 k101 .char (4 : Int32) [(.int c102), (.int 0), (.int 0), (.int 0)] (.int (0 : Int32)) := Arv.set Ar103 q103 S103 M103 H103 G103 (own_fitC rc_c102) W103 0 rfl (Nat.le_of_ble_eq_true rfl)
  have N103 := Fr.snoc X103 N0 ge_b101
  refine own_to ?_ st103
  obtain ⟨c104, hc104⟩ : ∃ z : Int32, z = ((p1 &&& (255 : Int32)).toUInt32.toUInt16.toUInt32.toInt32) := ⟨_, rfl⟩
  have rc_c104 : ¬ c104 < 0 ∧ ¬ (65535 : Int32) < c104 := by rw [hc104]; exact own_i2c_rng _
  have rb_c104 : ¬ c104 < 0 ∧ ¬ (255 : Int32) < c104 := by rw [hc104]; exact own_and255 _
  refine own_to (V := T103.setTop (mkF m 24 #[sI p0, sI p1, sI p2, sI p3, sI p4, sI p5, sR b101, .unset, .unset, .unset, .unset, .unset, .unset, .unset, .unset] [(.int c104), (.int 1), (.ref b101)])) ?_ fun t k => (by
    first | rw [hc104] at k | skip
    refine XS.aload X103.here hx rfl (hb hby at_15) rfl rfl ?_
    refine XS.iconst X103.here hx rfl (hb hby at_17) ?_
    refine XS.iloadN X103.here hx rfl (hb hby at_18) rfl ?_
    refine XS.sipush X103.here hx rfl (hb hby at_19) ?_
    refine XS.iand X103.here hx rfl (hb hby at_22) rfl ?_
    refine XS.i2c X103.here hx rfl (hb hby at_23) rfl ?_
    exact k)
  obtain ⟨cl105, Ar105, q105, S105, M105, H105, G105⟩ := id V103
  obtain ⟨T105, h105, X105, e105, W105, st105⟩ := stC X103 hx hZ e103 Ar105 (j := (1 : Int32)) (inb_of S105 ⟨by decide, by decide⟩) (g := (mkF m 24 #[sI p0, sI p1, sI p2, sI p3, sI p4, sI p5, sR b101, .unset, .unset, .unset, .unset, .unset, .unset, .unset, .unset] [(.int c104), (.int 1), (.ref b101)])) rfl rfl (hb hby at_24)
  rw [own_narC rc_c104] at W105
  have Cs105 : CHr Z consts_1 s.vm h103 s.vm h105 := CHr.wr W105 (Safe.arv hZ.alike V103 (by decide)) Ch103.1
  have Ch105 := Ch103.trans Cs105
  have Xo105 := Xo103.wr W105 ge_b101
  have KK105 := KK103.wr W105 (Or.inr sz_b101)
  have V105 : Arv Z h105 b101 k101 .char (4 : Int32) [(.int c102), (.int c104), (.int 0), (.int 0)] (.int (0 : Int32)) := Arv.set Ar105 q105 S105 M105 H105 G105 (own_fitC rc_c104) W105 1 rfl (Nat.le_of_ble_eq_true rfl)
  have N105 := Fr.snoc X105 N103 ge_b101
  refine own_to ?_ st105
  obtain ⟨c106, hc106⟩ : ∃ z : Int32, z = ((p2 &&& (255 : Int32)).toUInt32.toUInt16.toUInt32.toInt32) := ⟨_, rfl⟩
  have rc_c106 : ¬ c106 < 0 ∧ ¬ (65535 : Int32) < c106 := by rw [hc106]; exact own_i2c_rng _
  have rb_c106 : ¬ c106 < 0 ∧ ¬ (255 : Int32) < c106 := by rw [hc106]; exact own_and255 _
  refine own_to (V := T105.setTop (mkF m 34 #[sI p0, sI p1, sI p2, sI p3, sI p4, sI p5, sR b101, .unset, .unset, .unset, .unset, .unset, .unset, .unset, .unset] [(.int c106), (.int 2), (.ref b101)])) ?_ fun t k => (by
    first | rw [hc106] at k | skip
    refine XS.aload X105.here hx rfl (hb hby at_25) rfl rfl ?_
    refine XS.iconst X105.here hx rfl (hb hby at_27) ?_
    refine XS.iloadN X105.here hx rfl (hb hby at_28) rfl ?_
    refine XS.sipush X105.here hx rfl (hb hby at_29) ?_
    refine XS.iand X105.here hx rfl (hb hby at_32) rfl ?_
    refine XS.i2c X105.here hx rfl (hb hby at_33) rfl ?_
    exact k)
  obtain ⟨cl107, Ar107, q107, S107, M107, H107, G107⟩ := id V105
  obtain ⟨T107, h107, X107, e107, W107, st107⟩ := stC X105 hx hZ e105 Ar107 (j := (2 : Int32)) (inb_of S107 ⟨by decide, by decide⟩) (g := (mkF m 34 #[sI p0, sI p1, sI p2, sI p3, sI p4, sI p5, sR b101, .unset, .unset, .unset, .unset, .unset, .unset, .unset, .unset] [(.int c106), (.int 2), (.ref b101)])) rfl rfl (hb hby at_34)
  rw [own_narC rc_c106] at W107
  have Cs107 : CHr Z consts_1 s.vm h105 s.vm h107 := CHr.wr W107 (Safe.arv hZ.alike V105 (by decide)) Ch105.1
  have Ch107 := Ch105.trans Cs107
  have Xo107 := Xo105.wr W107 ge_b101
  have KK107 := KK105.wr W107 (Or.inr sz_b101)
  have V107 : Arv Z h107 b101 k101 .char (4 : Int32) [(.int c102), (.int c104), (.int c106), (.int 0)] (.int (0 : Int32)) := Arv.set Ar107 q107 S107 M107 H107 G107 (own_fitC rc_c106) W107 2 rfl (Nat.le_of_ble_eq_true rfl)
  have N107 := Fr.snoc X107 N105 ge_b101
  refine own_to ?_ st107
  obtain ⟨c108, hc108⟩ : ∃ z : Int32, z = ((p3 &&& (255 : Int32)).toUInt32.toUInt16.toUInt32.toInt32) := ⟨_, rfl⟩
  have rc_c108 : ¬ c108 < 0 ∧ ¬ (65535 : Int32) < c108 := by rw [hc108]; exact own_i2c_rng _
  have rb_c108 : ¬ c108 < 0 ∧ ¬ (255 : Int32) < c108 := by rw [hc108]; exact own_and255 _
  refine own_to (V := T107.setTop (mkF m 44 #[sI p0, sI p1, sI p2, sI p3, sI p4, sI p5, sR b101, .unset, .unset, .unset, .unset, .unset, .unset, .unset, .unset] [(.int c108), (.int 3), (.ref b101)])) ?_ fun t k => (by
    first | rw [hc108] at k | skip
    refine XS.aload X107.here hx rfl (hb hby at_35) rfl rfl ?_
    refine XS.iconst X107.here hx rfl (hb hby at_37) ?_
    refine XS.iloadN X107.here hx rfl (hb hby at_38) rfl ?_
    refine XS.sipush X107.here hx rfl (hb hby at_39) ?_
    refine XS.iand X107.here hx rfl (hb hby at_42) rfl ?_
    refine XS.i2c X107.here hx rfl (hb hby at_43) rfl ?_
    exact k)
  obtain ⟨cl109, Ar109, q109, S109, M109, H109, G109⟩ := id V107
  obtain ⟨T109, h109, X109, e109, W109, st109⟩ := stC X107 hx hZ e107 Ar109 (j := (3 : Int32)) (inb_of S109 ⟨by decide, by decide⟩) (g := (mkF m 44 #[sI p0, sI p1, sI p2, sI p3, sI p4, sI p5, sR b101, .unset, .unset, .unset, .unset, .unset, .unset, .unset, .unset] [(.int c108), (.int 3), (.ref b101)])) rfl rfl (hb hby at_44)
  rw [own_narC rc_c108] at W109
  have Cs109 : CHr Z consts_1 s.vm h107 s.vm h109 := CHr.wr W109 (Safe.arv hZ.alike V107 (by decide)) Ch107.1
  have Ch109 := Ch107.trans Cs109
  have Xo109 := Xo107.wr W109 ge_b101
  have KK109 := KK107.wr W109 (Or.inr sz_b101)
  have V109 : Arv Z h109 b101 k101 .char (4 : Int32) [(.int c102), (.int c104), (.int c106), (.int c108)] (.int (0 : Int32)) := Arv.set Ar109 q109 S109 M109 H109 G109 (own_fitC rc_c108) W109 3 rfl (Nat.le_of_ble_eq_true rfl)
  have N109 := Fr.snoc X109 N107 ge_b101
  refine own_to ?_ st109
  obtain ⟨T110, h110, X110, e110, E110, A110, D110, U110, st110⟩ := newO X109 hx hZ hown (own_i hw 1 rfl) (own_i hw 2 rfl) (own_i hw 3 rfl) e109 (g := (mkF m 45 #[sI p0, sI p1, sI p2, sI p3, sI p4, sI p5, sR b101, .unset, .unset, .unset, .unset, .unset, .unset, .unset, .unset] [])) rfl (hb hby at_45) (by decide) (by decide)
  obtain ⟨b110, g110⟩ : ∃ z, z = h109.size := ⟨_, rfl⟩
  rw [← g110] at A110 D110 U110 st110
  have Cs110 : CHr Z consts_1 s.vm h109 s.vm h110 := CHr.ext E110 Ch109.1
  have Ch110 := Ch109.trans Cs110
  have Xo110 := Xo109.ext E110
  have KK110 := KK109.ext E110
  have ge_b110 := Nat.le_trans (own_ole Xo109) (Nat.le_of_eq g110.symm)
  have sz_b110 := Nat.le_trans KK109.1 (Nat.le_of_eq g110.symm)
  have Sf_b110 : Safe Z consts_1 s.vm h110 b110 := Safe.ext E110 Ch109.1 (Safe.new (Nat.le_of_eq g110.symm))
  have Fi110_27 : Fld Z h110 b110 nm0 "coder" "B" (.int 0) := D110 (Or.inr (own_i hw 27 rfl)) (ty := .byte) (by decide)
  have Fi110_29 : Fld Z h110 b110 nm0 "value" "[B" .null := D110 (Or.inr (own_i hw 29 rfl)) (ty := (.array .byte)) (by decide)
  refine own_to ?_ st110
  refine own_to (V := T110.setTop (mkF m 51 #[sI p0, sI p1, sI p2, sI p3, sI p4, sI p5, sR b101, .unset, .unset, .unset, .unset, .unset, .unset, .unset, .unset] [(.ref b101), (.ref b110), (.ref b110)])) ?_ fun t k => (by
    refine XS.dup X110.here hx rfl (hb hby at_48) rfl rfl ?_
    refine XS.aload X110.here hx rfl (hb hby at_49) rfl rfl ?_
    exact k)
  have F112 := (V109.ext E110)
  obtain ⟨_, _, ⟨T111, L111, k111, n111⟩, -, X111, ⟨Lc111, hQ111, l111, y111, z111⟩, st111⟩ := X110.specialBack hx (y := own_mn17) rfl hown (mvT hZ (own_i hw 4 rfl)) (mvT hZ (own_i hw 5 rfl)) (mvT hZ (own_i hw 6 rfl)) (by decide) (StrChars.Road.backV (W := 1) hZ (own_hws hw) (kI := 4) (own_i hw 2 rfl) (cs := ([c102, c104, c106, c108] : List Int32)) (bs := ([c102, c104, c106, c108] : List Int32).map (fun c => c.toInt8.toInt32)) (n := 4) ge_b110 (own_ole Xo110) A110 Fi110_29 Fi110_27 F112 (O2.ext Xo110.2) P5 rfl rfl (by decide) (by decide) (own_allS rb_c102 (own_allS rb_c104 (own_allS rb_c106 (own_allS rb_c108 own_all0)))) rfl (by decide) (by decide)) (g := (mkF m 51 #[sI p0, sI p1, sI p2, sI p3, sI p4, sI p5, sR b101, .unset, .unset, .unset, .unset, .unset, .unset, .unset, .unset] [(.ref b101), (.ref b110), (.ref b110)])) rfl (by rw [hml]; rfl) (Steps.refl _) (a := b110) (argsL := [(.ref b101)]) (rest := [(.ref b110)]) (lenOf own_pd15 rfl) rfl (by show 2 * 0 + _ ≤ _; exact Nat.le_of_eq rfl) (hb hby at_51) (fun _ _ => ⟨rfl, e110, (by decide : 2 + 1 ≤ _), (by decide : 8 + 4 ≤ _)⟩)
  dsimp only [own_R, Pt.U, Pt.locs, Pt.cells, Pt.slots] at X111 l111 y111 z111 st111 hQ111
  subst y111 z111
  obtain ⟨hv111, N111q, K111, gE111, gC111, u111, kb111, ua111, ub111, uc111, gV111, gK111⟩ := hQ111
  subst hv111
  obtain ⟨h111, e111⟩ : ∃ z, T111.heap = z := ⟨_, rfl⟩
  rw [e111] at K111 gE111 gC111 gV111 gK111
  have Cs111 : CHr Z consts_1 s.vm h110 s.vm h111 := CHr.keep K111 (sfS Sf_b110 sf0) Ch110.1
  have Ch111 := Ch110.trans Cs111
  have Xo111 := Xo110.keep K111 (allS ge_b110 all0)
  have KK111 := KK110.trans K111 (allS (Or.inr sz_b110) all0)
  have N111 : Fr n0 L111 := by rw [l111]; exact Fr.app N109 N111q
  have ge_u111 := Nat.le_trans (own_ole Xo110) ub111
  have sz_u111 := Nat.le_trans KK110.1 ub111
  have Sf_u111 : Safe Z consts_1 s.vm h111 u111 := Safe.keep K111 (sfS Sf_b110 sf0) Ch110.1 (Safe.new ub111)
  have Fs111 : own_Str Z h111 b110 u111 ([c102, c104, c106, c108] : List Int32) := own_mkStr0 gE111 gV111 gC111 gK111 rfl (own_allS rb_c102 (own_allS rb_c104 (own_allS rb_c106 (own_allS rb_c108 own_all0)))) (Nat.le_of_ble_eq_true rfl)
  refine own_to ?_ (fun t k => st111.trans k)
  refine own_to (V := T111.setTop (mkF m 58 #[sI p0, sI p1, sI p2, sI p3, sI p4, sI p5, sR b101, sR b110, .unset, .unset, .unset, .unset, .unset, .unset, .unset] [(.int p4)])) ?_ fun t k => (by
    refine XS.astore X111.here hx rfl (hb hby at_54) rfl rfl (l' := #[sI p0, sI p1, sI p2, sI p3, sI p4, sI p5, sR b101, sR b110, .unset, .unset, .unset, .unset, .unset, .unset, .unset]) rfl ?_
    refine XS.iload X111.here hx rfl (hb hby at_56) rfl ?_
    exact k)
  refine own_to (V := T111.setTop (mkF m 60 #[sI p0, sI p1, sI p2, sI p3, sI p4, sI p5, sR b101, sR b110, .unset, .unset, .unset, .unset, .unset, .unset, .unset] [(.int 2147483647), (.int p4)])) ?_ (fun t k => X111.ldcInt hx hown (mvT hZ (own_i hw 30 rfl)) (g := (mkF m 58 #[sI p0, sI p1, sI p2, sI p3, sI p4, sI p5, sR b101, sR b110, .unset, .unset, .unset, .unset, .unset, .unset, .unset] [(.int p4)])) rfl (hb hby at_58) t k)
  obtain ⟨x113, hx113⟩ : ∃ z : Int32, z = ((p4 &&& (2147483647 : Int32)) % (5 : Int32)) := ⟨_, rfl⟩
  refine own_to (V := T111.setTop (mkF m 65 #[sI p0, sI p1, sI p2, sI p3, sI p4, sI p5, sR b101, sR b110, sI x113, .unset, .unset, .unset, .unset, .unset, .unset] [])) ?_ fun t k => (by
    first | rw [hx113] at k | skip
    refine XS.iand X111.here hx rfl (hb hby at_60) rfl ?_
    refine XS.iconst X111.here hx rfl (hb hby at_61) ?_
    refine own_irem X111.here hx rfl (hb hby at_62) rfl (by decide) ?_
    refine XS.istore X111.here hx rfl (hb hby at_63) rfl (l' := #[sI p0, sI p1, sI p2, sI p3, sI p4, sI p5, sR b101, sR b110, sI ((p4 &&& (2147483647 : Int32)) % (5 : Int32)), .unset, .unset, .unset, .unset, .unset, .unset]) rfl ?_
    exact k)
  refine own_to (V := T111.setTop (mkF m 67 #[sI p0, sI p1, sI p2, sI p3, sI p4, sI p5, sR b101, sR b110, sI x113, .unset, .unset, .unset, .unset, .unset, .unset] [(.int p5)])) ?_ fun t k => (by
    refine XS.iload X111.here hx rfl (hb hby at_65) rfl ?_
    exact k)
  refine own_to (V := T111.setTop (mkF m 69 #[sI p0, sI p1, sI p2, sI p3, sI p4, sI p5, sR b101, sR b110, sI x113, .unset, .unset, .unset, .unset, .unset, .unset] [(.int 2147483647), (.int p5)])) ?_ (fun t k => X111.ldcInt hx hown (mvT hZ (own_i hw 30 rfl)) (g := (mkF m 67 #[sI p0, sI p1, sI p2, sI p3, sI p4, sI p5, sR b101, sR b110, sI x113, .unset, .unset, .unset, .unset, .unset, .unset] [(.int p5)])) rfl (hb hby at_67) t k)
  obtain ⟨x114, hx114⟩ : ∃ z : Int32, z = ((p5 &&& (2147483647 : Int32)) % (5 : Int32)) := ⟨_, rfl⟩
  refine own_to (V := T111.setTop (mkF m 74 #[sI p0, sI p1, sI p2, sI p3, sI p4, sI p5, sR b101, sR b110, sI x113, sI x114, .unset, .unset, .unset, .unset, .unset] [])) ?_ fun t k => (by
    first | rw [hx114] at k | skip
    refine XS.iand X111.here hx rfl (hb hby at_69) rfl ?_
    refine XS.iconst X111.here hx rfl (hb hby at_70) ?_
    refine own_irem X111.here hx rfl (hb hby at_71) rfl (by decide) ?_
    refine XS.istore X111.here hx rfl (hb hby at_72) rfl (l' := #[sI p0, sI p1, sI p2, sI p3, sI p4, sI p5, sR b101, sR b110, sI x113, sI ((p5 &&& (2147483647 : Int32)) % (5 : Int32)), .unset, .unset, .unset, .unset, .unset]) rfl ?_
    exact k)
  refine own_to (V := T111.setTop (mkF m 78 #[sI p0, sI p1, sI p2, sI p3, sI p4, sI p5, sR b101, sR b110, sI x113, sI x114, .unset, .unset, .unset, .unset, .unset] [(.int x114), (.int x113)])) ?_ fun t k => (by
    refine XS.iload X111.here hx rfl (hb hby at_74) rfl ?_
    refine XS.iload X111.here hx rfl (hb hby at_76) rfl ?_
    exact k)
  obtain ⟨_, T115, h115, L115, Lc115, X115, e115, hQ115, l115, st115⟩ := own_cS (own_rmmamin l Z a0 hw hst [] x113 x114 h111 n0 Xo111 ) X111 hx hZ hown e111 (own_i hw 31 rfl) (own_i hw 32 rfl) (own_i hw 33 rfl) (own_i hw 34 rfl) (by decide) (g := (mkF m 78 #[sI p0, sI p1, sI p2, sI p3, sI p4, sI p5, sR b101, sR b110, sI x113, sI x114, .unset, .unset, .unset, .unset, .unset] [(.int x114), (.int x113)])) rfl (by rw [hml]; rfl) (argsL := [(.int x113), (.int x114)]) (rest := []) (lenOf own_pd8 rfl) rfl rfl (hb hby at_78) (W := 0) (Nat.le_of_eq rfl) (K := 3) (N := 12) rfl rfl (by decide) (by decide) (by decide) (by decide)
  rcases hQ115 with ⟨hv115, N115q, K115, g115_0⟩ | ⟨hv115, N115q, K115, g115_0⟩
  ·skip
   subst hv115
   have Cs115 : CHr Z consts_1 s.vm h111 s.vm h115 := CHr.keep K115 sf0 Ch111.1
   have Ch115 := Ch111.trans Cs115
   have Xo115 := Xo111.keep K115 all0
   have KK115 := KK111.trans K115 all0
   have N115 := l115 _ N111 N115q
   refine own_to ?_ st115
   refine own_to (V := T115.setTop (mkF m 87 #[sI p0, sI p1, sI p2, sI p3, sI p4, sI p5, sR b101, sR b110, sI x113, sI x114, sI x113, .unset, .unset, .unset, .unset] [(.int x114), (.int x113)])) ?_ fun t k => (by
     refine XS.istore X115.here hx rfl (hb hby at_81) rfl (l' := #[sI p0, sI p1, sI p2, sI p3, sI p4, sI p5, sR b101, sR b110, sI x113, sI x114, sI x113, .unset, .unset, .unset, .unset]) rfl ?_
     refine XS.iload X115.here hx rfl (hb hby at_83) rfl ?_
     refine XS.iload X115.here hx rfl (hb hby at_85) rfl ?_
     exact k)
   obtain ⟨_, T116, h116, L116, Lc116, X116, e116, hQ116, l116, st116⟩ := own_cS (own_rmmamax l Z a0 hw hst [] x113 x114 h115 n0 Xo115 ) X115 hx hZ hown e115 (own_i hw 35 rfl) (own_i hw 36 rfl) (own_i hw 33 rfl) (own_i hw 37 rfl) (by decide) (g := (mkF m 87 #[sI p0, sI p1, sI p2, sI p3, sI p4, sI p5, sR b101, sR b110, sI x113, sI x114, sI x113, .unset, .unset, .unset, .unset] [(.int x114), (.int x113)])) rfl (by rw [hml]; rfl) (argsL := [(.int x113), (.int x114)]) (rest := []) (lenOf own_pd8 rfl) rfl rfl (hb hby at_87) (W := 0) (Nat.le_of_eq rfl) (K := 3) (N := 12) rfl rfl (by decide) (by decide) (by decide) (by decide)
   rcases hQ116 with ⟨hv116, N116q, K116, g116_0⟩ | ⟨hv116, N116q, K116, g116_0⟩
   ·skip
    subst hv116
    have Cs116 : CHr Z consts_1 s.vm h115 s.vm h116 := CHr.keep K116 sf0 Ch115.1
    have Ch116 := Ch115.trans Cs116
    have Xo116 := Xo115.keep K116 all0
    have KK116 := KK115.trans K116 all0
    have N116 := l116 _ N115 N116q
    refine own_to ?_ st116
    refine own_to (V := T116.setTop (mkF m 92 #[sI p0, sI p1, sI p2, sI p3, sI p4, sI p5, sR b101, sR b110, sI x113, sI x114, sI x113, sI x113, .unset, .unset, .unset] [])) ?_ fun t k => (by
      refine XS.istore X116.here hx rfl (hb hby at_90) rfl (l' := #[sI p0, sI p1, sI p2, sI p3, sI p4, sI p5, sR b101, sR b110, sI x113, sI x114, sI x113, sI x113, .unset, .unset, .unset]) rfl ?_
      exact k)
    have F117 := ((Fs111.keep K115 List.not_mem_nil List.not_mem_nil).keep K116 List.not_mem_nil List.not_mem_nil)
    have F118 := (((F112.keep K111 (own_nmS (Nat.ne_of_lt (Nat.lt_of_lt_of_le (Nat.lt_of_lt_of_le (Nat.lt_of_lt_of_le (Nat.lt_of_lt_of_le (Nat.lt_of_lt_of_le V101.lt (Nat.le_of_eq W103.size.symm)) (Nat.le_of_eq W105.size.symm)) (Nat.le_of_eq W107.size.symm)) (Nat.le_of_eq W109.size.symm)) (Nat.le_of_eq g110.symm))) own_nm0)).keep K115 List.not_mem_nil).keep K116 List.not_mem_nil)
    exact own_sglawA l Z a0 hw hst p0 p1 p2 p3 p4 p5 h0 n0 b101 k101 b110 u111 x113 x114 c102 c104 c106 c108 x113 x113 hx hby hret hlk hml hnm hS0 hh hZ hown X116 e116 (Nat.le_trans (Nat.le_trans (Nat.le_trans (Nat.le_trans (Nat.le_trans (Nat.le_trans (Nat.le_trans (Nat.le_trans (Nat.le_trans hk0 E101.1) (Nat.le_of_eq W103.size.symm)) (Nat.le_of_eq W105.size.symm)) (Nat.le_of_eq W107.size.symm)) (Nat.le_of_eq W109.size.symm)) E110.1) K111.1) K115.1) K116.1) Ch116 N116 Xo116 KK116 rb_c102 rb_c104 rb_c106 rb_c108 F117 F118 (own_lh0 (show x113 = (0 : Int32) ∨ x113 = (1 : Int32) ∨ x113 = (2 : Int32) ∨ x113 = (3 : Int32) ∨ x113 = (4 : Int32) from by rw [hx113]; exact own_rem5 _) (show x114 = (0 : Int32) ∨ x114 = (1 : Int32) ∨ x114 = (2 : Int32) ∨ x114 = (3 : Int32) ∨ x114 = (4 : Int32) from by rw [hx114]; exact own_rem5 _) g115_0 g116_0)
   ·skip
    subst hv116
    have Cs116 : CHr Z consts_1 s.vm h115 s.vm h116 := CHr.keep K116 sf0 Ch115.1
    have Ch116 := Ch115.trans Cs116
    have Xo116 := Xo115.keep K116 all0
    have KK116 := KK115.trans K116 all0
    have N116 := l116 _ N115 N116q
    refine own_to ?_ st116
    refine own_to (V := T116.setTop (mkF m 92 #[sI p0, sI p1, sI p2, sI p3, sI p4, sI p5, sR b101, sR b110, sI x113, sI x114, sI x113, sI x114, .unset, .unset, .unset] [])) ?_ fun t k => (by
      refine XS.istore X116.here hx rfl (hb hby at_90) rfl (l' := #[sI p0, sI p1, sI p2, sI p3, sI p4, sI p5, sR b101, sR b110, sI x113, sI x114, sI x113, sI x114, .unset, .unset, .unset]) rfl ?_
      exact k)
    have F119 := ((Fs111.keep K115 List.not_mem_nil List.not_mem_nil).keep K116 List.not_mem_nil List.not_mem_nil)
    have F120 := (((F112.keep K111 (own_nmS (Nat.ne_of_lt (Nat.lt_of_lt_of_le (Nat.lt_of_lt_of_le (Nat.lt_of_lt_of_le (Nat.lt_of_lt_of_le (Nat.lt_of_lt_of_le V101.lt (Nat.le_of_eq W103.size.symm)) (Nat.le_of_eq W105.size.symm)) (Nat.le_of_eq W107.size.symm)) (Nat.le_of_eq W109.size.symm)) (Nat.le_of_eq g110.symm))) own_nm0)).keep K115 List.not_mem_nil).keep K116 List.not_mem_nil)
    exact own_sglawA l Z a0 hw hst p0 p1 p2 p3 p4 p5 h0 n0 b101 k101 b110 u111 x113 x114 c102 c104 c106 c108 x113 x114 hx hby hret hlk hml hnm hS0 hh hZ hown X116 e116 (Nat.le_trans (Nat.le_trans (Nat.le_trans (Nat.le_trans (Nat.le_trans (Nat.le_trans (Nat.le_trans (Nat.le_trans (Nat.le_trans hk0 E101.1) (Nat.le_of_eq W103.size.symm)) (Nat.le_of_eq W105.size.symm)) (Nat.le_of_eq W107.size.symm)) (Nat.le_of_eq W109.size.symm)) E110.1) K111.1) K115.1) K116.1) Ch116 N116 Xo116 KK116 rb_c102 rb_c104 rb_c106 rb_c108 F119 F120 (own_lh1 (show x113 = (0 : Int32) ∨ x113 = (1 : Int32) ∨ x113 = (2 : Int32) ∨ x113 = (3 : Int32) ∨ x113 = (4 : Int32) from by rw [hx113]; exact own_rem5 _) (show x114 = (0 : Int32) ∨ x114 = (1 : Int32) ∨ x114 = (2 : Int32) ∨ x114 = (3 : Int32) ∨ x114 = (4 : Int32) from by rw [hx114]; exact own_rem5 _) g115_0 g116_0)
  ·skip
   subst hv115
   have Cs115 : CHr Z consts_1 s.vm h111 s.vm h115 := CHr.keep K115 sf0 Ch111.1
   have Ch115 := Ch111.trans Cs115
   have Xo115 := Xo111.keep K115 all0
   have KK115 := KK111.trans K115 all0
   have N115 := l115 _ N111 N115q
   refine own_to ?_ st115
   refine own_to (V := T115.setTop (mkF m 87 #[sI p0, sI p1, sI p2, sI p3, sI p4, sI p5, sR b101, sR b110, sI x113, sI x114, sI x114, .unset, .unset, .unset, .unset] [(.int x114), (.int x113)])) ?_ fun t k => (by
     refine XS.istore X115.here hx rfl (hb hby at_81) rfl (l' := #[sI p0, sI p1, sI p2, sI p3, sI p4, sI p5, sR b101, sR b110, sI x113, sI x114, sI x114, .unset, .unset, .unset, .unset]) rfl ?_
     refine XS.iload X115.here hx rfl (hb hby at_83) rfl ?_
     refine XS.iload X115.here hx rfl (hb hby at_85) rfl ?_
     exact k)
   obtain ⟨_, T121, h121, L121, Lc121, X121, e121, hQ121, l121, st121⟩ := own_cS (own_rmmamax l Z a0 hw hst [] x113 x114 h115 n0 Xo115 ) X115 hx hZ hown e115 (own_i hw 35 rfl) (own_i hw 36 rfl) (own_i hw 33 rfl) (own_i hw 37 rfl) (by decide) (g := (mkF m 87 #[sI p0, sI p1, sI p2, sI p3, sI p4, sI p5, sR b101, sR b110, sI x113, sI x114, sI x114, .unset, .unset, .unset, .unset] [(.int x114), (.int x113)])) rfl (by rw [hml]; rfl) (argsL := [(.int x113), (.int x114)]) (rest := []) (lenOf own_pd8 rfl) rfl rfl (hb hby at_87) (W := 0) (Nat.le_of_eq rfl) (K := 3) (N := 12) rfl rfl (by decide) (by decide) (by decide) (by decide)
   rcases hQ121 with ⟨hv121, N121q, K121, g121_0⟩ | ⟨hv121, N121q, K121, g121_0⟩
   ·skip
    subst hv121
    have Cs121 : CHr Z consts_1 s.vm h115 s.vm h121 := CHr.keep K121 sf0 Ch115.1
    have Ch121 := Ch115.trans Cs121
    have Xo121 := Xo115.keep K121 all0
    have KK121 := KK115.trans K121 all0
    have N121 := l121 _ N115 N121q
    refine own_to ?_ st121
    refine own_to (V := T121.setTop (mkF m 92 #[sI p0, sI p1, sI p2, sI p3, sI p4, sI p5, sR b101, sR b110, sI x113, sI x114, sI x114, sI x113, .unset, .unset, .unset] [])) ?_ fun t k => (by
      refine XS.istore X121.here hx rfl (hb hby at_90) rfl (l' := #[sI p0, sI p1, sI p2, sI p3, sI p4, sI p5, sR b101, sR b110, sI x113, sI x114, sI x114, sI x113, .unset, .unset, .unset]) rfl ?_
      exact k)
    have F122 := ((Fs111.keep K115 List.not_mem_nil List.not_mem_nil).keep K121 List.not_mem_nil List.not_mem_nil)
    have F123 := (((F112.keep K111 (own_nmS (Nat.ne_of_lt (Nat.lt_of_lt_of_le (Nat.lt_of_lt_of_le (Nat.lt_of_lt_of_le (Nat.lt_of_lt_of_le (Nat.lt_of_lt_of_le V101.lt (Nat.le_of_eq W103.size.symm)) (Nat.le_of_eq W105.size.symm)) (Nat.le_of_eq W107.size.symm)) (Nat.le_of_eq W109.size.symm)) (Nat.le_of_eq g110.symm))) own_nm0)).keep K115 List.not_mem_nil).keep K121 List.not_mem_nil)
    exact own_sglawA l Z a0 hw hst p0 p1 p2 p3 p4 p5 h0 n0 b101 k101 b110 u111 x113 x114 c102 c104 c106 c108 x114 x113 hx hby hret hlk hml hnm hS0 hh hZ hown X121 e121 (Nat.le_trans (Nat.le_trans (Nat.le_trans (Nat.le_trans (Nat.le_trans (Nat.le_trans (Nat.le_trans (Nat.le_trans (Nat.le_trans hk0 E101.1) (Nat.le_of_eq W103.size.symm)) (Nat.le_of_eq W105.size.symm)) (Nat.le_of_eq W107.size.symm)) (Nat.le_of_eq W109.size.symm)) E110.1) K111.1) K115.1) K121.1) Ch121 N121 Xo121 KK121 rb_c102 rb_c104 rb_c106 rb_c108 F122 F123 (own_lh2 (show x113 = (0 : Int32) ∨ x113 = (1 : Int32) ∨ x113 = (2 : Int32) ∨ x113 = (3 : Int32) ∨ x113 = (4 : Int32) from by rw [hx113]; exact own_rem5 _) (show x114 = (0 : Int32) ∨ x114 = (1 : Int32) ∨ x114 = (2 : Int32) ∨ x114 = (3 : Int32) ∨ x114 = (4 : Int32) from by rw [hx114]; exact own_rem5 _) g115_0 g121_0)
   ·skip
    subst hv121
    have Cs121 : CHr Z consts_1 s.vm h115 s.vm h121 := CHr.keep K121 sf0 Ch115.1
    have Ch121 := Ch115.trans Cs121
    have Xo121 := Xo115.keep K121 all0
    have KK121 := KK115.trans K121 all0
    have N121 := l121 _ N115 N121q
    refine own_to ?_ st121
    refine own_to (V := T121.setTop (mkF m 92 #[sI p0, sI p1, sI p2, sI p3, sI p4, sI p5, sR b101, sR b110, sI x113, sI x114, sI x114, sI x114, .unset, .unset, .unset] [])) ?_ fun t k => (by
      refine XS.istore X121.here hx rfl (hb hby at_90) rfl (l' := #[sI p0, sI p1, sI p2, sI p3, sI p4, sI p5, sR b101, sR b110, sI x113, sI x114, sI x114, sI x114, .unset, .unset, .unset]) rfl ?_
      exact k)
    exact False.elim (own_lh3 (show x113 = (0 : Int32) ∨ x113 = (1 : Int32) ∨ x113 = (2 : Int32) ∨ x113 = (3 : Int32) ∨ x113 = (4 : Int32) from by rw [hx113]; exact own_rem5 _) (show x114 = (0 : Int32) ∨ x114 = (1 : Int32) ∨ x114 = (2 : Int32) ∨ x114 = (3 : Int32) ∨ x114 = (4 : Int32) from by rw [hx114]; exact own_rem5 _) g115_0 g121_0)
set_option maxRecDepth 65536 in
set_option maxHeartbeats 40000000 in
theorem comes_1 {Post : Tables → Env → Array Value → State → Outcome → State → Prop} (hpost : ∀ tb e args s v u, (limb_1_1.after args s (.returned v) u = true ∧ limb_1_2.after args s (.returned v) u = true ∧ True) → ReturnedEndW s (.returned v) u (Jvm.fieldLocs frame_1_writes args s ++ Jvm.arrayLocs frame_1_arrays args s ++ Jvm.staticLocs frame_1_statics s) 24 1152 → Post tb e args s (.returned v) u) :
    ArmFor flags0 classFile x code maxLocals ret World_1 tables_1 room_1 Calls_1 rest_1 Pre_1 Post := by
  intro l hfl _ _ p e ha hc hk s m args below hf hA hF happ hP
  obtain ⟨hcalls, hrest, hpre⟩ := hP
  obtain ⟨-, -, -, hnamed, -, -, -, hat⟩ := (Spec.applies_iff hf).mp happ
  obtain ⟨hg, hn⟩ := and_e (Cond.before_iff.mp (show (Jvm.Cond.and given_1 narrow_1).before args s = true from hpre))
  obtain ⟨hcnt, gr0⟩ := and_e hg
  obtain ⟨ga0, gr1⟩ := and_e gr0
  obtain ⟨ga1, gr2⟩ := and_e gr1
  obtain ⟨ga2, gr3⟩ := and_e gr2
  obtain ⟨ga3, gr4⟩ := and_e gr3
  obtain ⟨ga4, gr5⟩ := and_e gr4
  have ga5 := gr5
  obtain ⟨w0, w1, w2, w3, w4, w5, rfl⟩ : ∃ w0 w1 w2 w3 w4 w5 : Value, args = #[w0, w1, w2, w3, w4, w5] := by
    have hs : args.size = 6 := by simpa [Cond.value, given_1] using hcnt
    obtain ⟨L⟩ := args
    match L, hs with
    | [w0, w1, w2, w3, w4, w5], _ => exact ⟨w0, w1, w2, w3, w4, w5, rfl⟩
  have hw := fun d (hd : d ∈ tables_1) => atoms_spec (ws := Jvm.Cond.code x code maxLocals ret :: tables_1) hat d (List.mem_cons_of_mem _ hd)
  have hfit : Fit s := fun {y c} hc i hi => by
    obtain ⟨ha, rfl⟩ := Array.getElem?_eq_some_iff.mp hc
    have q := List.all_eq_true.mp ((Array.all_eq_true_iff_forall_mem.mp hF) _ (Array.getElem_mem ha)) i (List.mem_range.mpr hi)
    simpa [Array.getElem?_eq_getElem hi] using q
  obtain ⟨hsets, hown0⟩ := atoms_of _ (rest_1_c_eq ▸ (show rest_1_c.before _ s = true from hrest))
  obtain ⟨i0, ei0⟩ := is_v ga0
  obtain rfl : w0 = (.int i0) := Option.some.inj ei0
  obtain ⟨i1, ei1⟩ := is_v ga1
  obtain rfl : w1 = (.int i1) := Option.some.inj ei1
  obtain ⟨i2, ei2⟩ := is_v ga2
  obtain rfl : w2 = (.int i2) := Option.some.inj ei2
  obtain ⟨i3, ei3⟩ := is_v ga3
  obtain rfl : w3 = (.int i3) := Option.some.inj ei3
  obtain ⟨i4, ei4⟩ := is_v ga4
  obtain rfl : w4 = (.int i4) := Option.some.inj ei4
  obtain ⟨i5, ei5⟩ := is_v ga5
  obtain rfl : w5 = (.int i5) := Option.some.inj ei5
  obtain ⟨z1, ez1⟩ := is_v (Cond.before_iff.mp (hsets _ (List.mem_of_getElem? (i := 1) rfl)))
  have S1 : Sta s s.heap "java/lang/String" "COMPACT_STRINGS" "Z" (.int z1) := Sta.start ez1 (Or.inl (hsets _ (List.mem_of_getElem? (i := 0) rfl)))
  have P1 : ¬ (z1 = (0 : Int32)) := gotF (Cond.eq_ints ez1 (Term.int_eval (0))) (not_v (Cond.before_iff.mp (hsets _ (List.mem_of_getElem? (i := 2) rfl))))
  obtain ⟨v3, ev3, r3⟩ := isR_v (Cond.before_iff.mp (hsets _ (List.mem_of_getElem? (i := 8) rfl)))
  have S3 : Sta s s.heap "jdk/internal/util/Preconditions" "SIOOBE_FORMATTER" "Ljava/util/function/BiFunction;" v3 := Sta.start ev3 (Or.inl (hsets _ (List.mem_of_getElem? (i := 7) rfl)))
  have hst : own_St s := ⟨⟨z1, S1, P1⟩, ⟨v3, S3, r3⟩, trivial⟩
  have hCH0 : CHv s consts_1 s.vm s.heap := CHv.start (own_hEL hw) hcalls.1 (hsets _ (List.mem_of_getElem? (i := 2) rfl)) (own_i hw 19 rfl) (own_i hw 2 rfl)
  obtain ⟨n, o, h1, h2, h3, _, L, rfl, ⟨rfl, N, -⟩, -, hq⟩ := own_rmlaw l s _ hw hst tables_1 i0 i1 i2 i3 i4 i5 s.heap s.heap.size (Old.start s)  p e ha hc hk s m _ below hf ((Spec.applies_iff_loose hf).mp happ).1 ⟨rfl, State.Warmed39.refl s, rfl, hCH0⟩ trivial
  refine ⟨n, _, h1, h2, h3, hpost _ _ _ _ _ _ ⟨Cond.after_iff.mpr rfl, Cond.after_iff.mpr (eq_i res_at (Term.int_eval (1)) rfl), trivial⟩ ⟨hq.1, hq.2.1, hq.2.2.1, (hq.2.2.2.sift fun y hy => Or.inr (N y hy)).mono (by decide) (by decide)⟩⟩
theorem main_1_1 : Claimed_1_1 := comes_1 fun _ _ _ _ _ _ h hF => ⟨h.1, hF⟩
theorem main_1_2 : Claimed_1_2 := comes_1 fun _ _ _ _ _ _ h hF => ⟨h.2.1, hF⟩
end Jvm.Pilot.@@N@@
namespace Jvm.Pilot.@@N@@
open Jvm Jvm.ClassFile Sem Op Lib Jvm.Free Jvm.Stand Jvm.Pilot.@@N@@.Jvm.D
/-! MADE BY PROGRAM (witnessworld.py) out of the Statement's table words and the real class files: 24 classes; the members and pool entries that the words name. The judged class is class 1, her method 2. -/
namespace start1
open Jvm.ClassFile
def u (s : String) : CpInfo := .utf8 (stringToUtf16 s)
/-- a pool by its gaps: so many unusable entries, then the entry; so many at the end -/
def gap : Nat → List CpInfo → List CpInfo
  | 0, r => r
  | n + 1, r => .unusable :: gap n r
def poolList (es : List (Nat × CpInfo)) (last : Nat) : List CpInfo := es.foldr (fun e r => gap e.1 (e.2 :: r)) (gap last [])
def pool (es : List (Nat × CpInfo)) (last : Nat) : Array CpInfo := ⟨poolList es last⟩
def fileOf (pool : Array CpInfo) (this : Nat) (attrs : Array Attribute := #[]) (ms : Array MethodInfo := #[]) (fl : Nat := 33) (sup : Nat := 0) (ifs : Array Nat := #[]) (fds : Array FieldInfo := #[]) : ClassFile where
  minorVersion := 0
  majorVersion := 65
  constantPool := pool
  accessFlags := fl
  thisClass := this
  superClass := sup
  interfaces := ifs
  fields := fds
  methods := ms
  attributes := attrs
def plain (name : String) (sup : Option ClassId) : Class where
  name := name
  kind := .ordinary
  loader := none
  accessFlags := 33
  super := sup
  interfaces := #[]
  cf := none
  fields := #[]
  methods := #[]
  instanceTypes := #[]
  staticTypes := #[]
  resolved := #[]
  callSites := []
  init := .initialized
  statics := none
  mirror := none

def pool0 : Array CpInfo := pool [(5, u "<init>"), (0, u "()V"), (1, .class_ 10), (1, u "java/lang/Object")] 113

def k0c0 : Code := { maxStack := 0, maxLocals := 1, code := object_method_1_code, exceptionTable := #[], attributes := #[] }
def k0m0 : Method := { name := "<init>", desc := "()V", sig := { parameters := [], returnType := none }, accessFlags := 1, code := some k0c0 }
/-- java/lang/Object -/
def k0 : Class := { plain "java/lang/Object" none with
  accessFlags := 33
  interfaces := #[]
  cf := some (fileOf pool0 8 #[] #[{ accessFlags := 1, nameIndex := 5, descriptorIndex := 6, attributes := #[] }] 33 0 #[] #[])
  fields := #[]
  methods := #[k0m0]
  instanceTypes := #[]
  staticTypes := #[]
  resolved := Array.replicate 124 none
  statics := none }

def pool1 : Array CpInfo := pool [(2, .class_ 4), (1, u "java/lang/Object"), (0, u "<init>"), (0, u "()V"), (0, .methodref 8 9), (0, .class_ 10), (0, .nameAndType 11 12), (0, u "java/lang/String"), (0, u "charAt"), (0, u "(I)C"), (0, .methodref 8 14), (0, .nameAndType 5 15), (0, u "([C)V"), (0, .integer 2147483647), (0, .methodref 18 19), (0, .class_ 20), (0, .nameAndType 21 22), (0, u "java/lang/Math"), (0, u "min"), (0, u "(II)I"), (0, .methodref 18 24), (0, .nameAndType 25 22), (0, u "max"), (0, .class_ 27), (0, u "com/example/capstrike/capstrike/TermText$Written"), (0, .methodref 26 29), (0, .nameAndType 5 30), (0, u "(Ljava/lang/String;II)V"), (0, .methodref 26 32), (0, .nameAndType 33 34), (0, u "toString"), (0, u "()Ljava/lang/String;"), (0, .methodref 8 36), (0, .nameAndType 37 38), (0, u "length"), (0, u "()I"), (0, .methodref 40 41), (0, .class_ 42), (0, .nameAndType 43 44), (0, u "com/example/capstrike/capstrike/TermTextToStringPinLaw"), (0, u "same"), (0, u "(Ljava/lang/String;I[CII)Z"), (3, u "law"), (0, u "(IIIIII)Z")] 8

def k1m0 : Method := { name := "<init>", desc := "()V", sig := { parameters := [], returnType := none }, accessFlags := 1, code := none }
def k1c1 : Code := { maxStack := 4, maxLocals := 5, code := method_2_code, exceptionTable := #[], attributes := #[] }
def k1m1 : Method := { name := "same", desc := "(Ljava/lang/String;I[CII)Z", sig := { parameters := [(.object "java/lang/String"), .int, (.array .char), .int, .int], returnType := some .boolean }, accessFlags := 10, code := some k1c1 }
def k1c2 : Code := { maxStack := 5, maxLocals := 15, code := code, exceptionTable := #[], attributes := #[] }
def k1m2 : Method := { name := "law", desc := "(IIIIII)Z", sig := { parameters := [.int, .int, .int, .int, .int, .int], returnType := some .boolean }, accessFlags := 9, code := some k1c2 }
/-- com/example/capstrike/capstrike/TermTextToStringPinLaw -/
def k1 : Class := { plain "com/example/capstrike/capstrike/TermTextToStringPinLaw" (some 0) with
  accessFlags := 49
  interfaces := #[]
  cf := some (fileOf pool1 40 #[] #[{ accessFlags := 1, nameIndex := 5, descriptorIndex := 6, attributes := #[] }, { accessFlags := 10, nameIndex := 43, descriptorIndex := 44, attributes := #[] }, { accessFlags := 9, nameIndex := 48, descriptorIndex := 49, attributes := #[] }] 49 2 #[] #[])
  fields := #[]
  methods := #[k1m0, k1m1, k1m2]
  instanceTypes := #[]
  staticTypes := #[]
  resolved := Array.replicate 58 none
  statics := none }

def pool2 : Array CpInfo := pool [(1, .class_ 2), (0, u "java/io/Serializable"), (0, .class_ 4), (0, u "java/lang/Object")] 2

/-- java/io/Serializable -/
def k2 : Class := { plain "java/io/Serializable" (some 0) with
  accessFlags := 1537
  interfaces := #[]
  cf := some (fileOf pool2 1 #[] #[] 1537 3 #[] #[])
  fields := #[]
  methods := #[]
  instanceTypes := #[]
  staticTypes := #[]
  resolved := Array.replicate 7 none
  statics := none }

def pool3 : Array CpInfo := pool [(1, .class_ 2), (0, u "java/lang/Comparable"), (0, .class_ 4), (0, u "java/lang/Object")] 7

/-- java/lang/Comparable -/
def k3 : Class := { plain "java/lang/Comparable" (some 0) with
  accessFlags := 1537
  interfaces := #[]
  cf := some (fileOf pool3 1 #[] #[] 1537 3 #[] #[])
  fields := #[]
  methods := #[]
  instanceTypes := #[]
  staticTypes := #[]
  resolved := Array.replicate 12 none
  statics := none }

def pool4 : Array CpInfo := pool [(2, .class_ 4), (1, u "java/lang/CharSequence"), (42, .class_ 48), (0, u "java/lang/CharSequence$1CodePointIterator"), (10, .class_ 60), (0, u "java/lang/CharSequence$1CharIterator"), (5, .class_ 67), (0, u "java/lang/Object")] 63

/-- java/lang/CharSequence -/
def k4 : Class := { plain "java/lang/CharSequence" (some 0) with
  accessFlags := 1537
  interfaces := #[]
  cf := some (fileOf pool4 2 #[.nestMembers #[47, 59]] #[] 1537 66 #[] #[])
  fields := #[]
  methods := #[]
  instanceTypes := #[]
  staticTypes := #[]
  resolved := Array.replicate 131 none
  statics := none }

def pool5 : Array CpInfo := pool [(1, .class_ 2), (0, u "java/lang/constant/Constable"), (0, .class_ 4), (0, u "java/lang/Object")] 6

/-- java/lang/constant/Constable -/
def k5 : Class := { plain "java/lang/constant/Constable" (some 0) with
  accessFlags := 1537
  interfaces := #[]
  cf := some (fileOf pool5 1 #[] #[] 1537 3 #[] #[])
  fields := #[]
  methods := #[]
  instanceTypes := #[]
  staticTypes := #[]
  resolved := Array.replicate 11 none
  statics := none }

def pool6 : Array CpInfo := pool [(1, .class_ 2), (0, u "java/lang/constant/ConstantDesc"), (0, .class_ 4), (0, u "java/lang/Object")] 32

/-- java/lang/constant/ConstantDesc -/
def k6 : Class := { plain "java/lang/constant/ConstantDesc" (some 0) with
  accessFlags := 1537
  interfaces := #[]
  cf := some (fileOf pool6 1 #[] #[] 1537 3 #[] #[])
  fields := #[]
  methods := #[]
  instanceTypes := #[]
  staticTypes := #[]
  resolved := Array.replicate 37 none
  statics := none }

def pool7 : Array CpInfo := pool [(1, .methodref 2 3), (0, .class_ 4), (0, .nameAndType 5 6), (0, u "java/lang/Object"), (0, u "<init>"), (0, u "()V"), (2, .fieldref 10 11), (0, .class_ 12), (0, .nameAndType 13 14), (0, u "java/lang/String"), (0, u "value"), (0, u "[B"), (0, .fieldref 10 16), (0, .nameAndType 17 18), (0, u "coder"), (0, u "B"), (2, u "hash"), (0, u "I"), (2, u "hashIsZero"), (0, u "Z"), (0, .methodref 10 28), (0, .nameAndType 5 29), (0, u "([CIILjava/lang/Void;)V"), (8, .fieldref 10 39), (0, .nameAndType 40 26), (0, u "COMPACT_STRINGS"), (1, .class_ 44), (1, u "java/lang/StringUTF16"), (0, u "compress"), (1, .methodref 42 48), (0, .nameAndType 49 50), (0, u "coderFromArrayLen"), (0, u "([BI)B"), (56, .class_ 109), (1, u "java/lang/StringLatin1"), (32, u "()Z"), (34, .methodref 42 178), (0, .nameAndType 45 179), (0, u "([CII)[B"), (31, u "([BB)V"), (122, u "()I"), (0, .methodref 10 336), (0, .nameAndType 17 337), (0, u "()B"), (25, u "([BI)C"), (27, u "(II)V"), (35, u "(I)C"), (64, .methodref 10 493), (0, .nameAndType 494 142), (0, u "isLatin1"), (0, .methodref 107 496), (0, .nameAndType 497 363), (0, u "charAt"), (3, u "checkIndex"), (3, .methodref 10 506), (0, .nameAndType 507 334), (0, u "length"), (5, u "checkFromToIndex"), (7, .methodref 10 522), (0, .nameAndType 523 524), (0, u "checkBoundsBeginEnd"), (0, u "(III)V"), (50, .class_ 576), (0, u "java/lang/CharSequence"), (22, u "CASE_INSENSITIVE_ORDER"), (0, u "Ljava/util/Comparator;"), (82, u "substring"), (0, u "(II)Ljava/lang/String;"), (0, .methodref 107 686), (0, .nameAndType 687 688), (0, u "newString"), (0, u "([BII)Ljava/lang/String;"), (321, u "([C)V"), (42, .fieldref 1054 1055), (0, .class_ 1056), (0, .nameAndType 1057 1058), (0, u "jdk/internal/util/Preconditions"), (0, u "SIOOBE_FORMATTER"), (0, u "Ljava/util/function/BiFunction;"), (0, .methodref 1054 1060), (0, .nameAndType 501 1061), (0, u "(IILjava/util/function/BiFunction;)I"), (0, .methodref 1054 1063), (0, .nameAndType 513 1064), (0, u "(IIILjava/util/function/BiFunction;)I"), (36, u "serialPersistentFields"), (0, u "[Ljava/io/ObjectStreamField;"), (0, .class_ 1104), (0, u "java/lang/String$CaseInsensitiveComparator"), (1, .class_ 1107), (0, u "java/io/Serializable"), (0, .class_ 1109), (0, u "java/lang/Comparable"), (0, .class_ 1111), (0, u "java/lang/constant/Constable"), (0, .class_ 1113), (0, u "java/lang/constant/ConstantDesc"), (2, u "serialVersionUID"), (0, u "J"), (3, u "REPL"), (0, u "C"), (2, u "LATIN1"), (1, u "UTF16")] 323

def k7m0 : Method := { name := "<init>", desc := "()V", sig := { parameters := [], returnType := none }, accessFlags := 1, code := none }
def k7c1 : Code := { maxStack := 5, maxLocals := 2, code := jdk_42_method_3_code, exceptionTable := #[], attributes := #[] }
def k7m1 : Method := { name := "<init>", desc := "([C)V", sig := { parameters := [(.array .char)], returnType := none }, accessFlags := 1, code := some k7c1 }
def k7c2 : Code := { maxStack := 2, maxLocals := 1, code := jdk_42_method_54_code, exceptionTable := #[], attributes := #[] }
def k7m2 : Method := { name := "length", desc := "()I", sig := { parameters := [], returnType := some .int }, accessFlags := 1, code := some k7c2 }
def k7c3 : Code := { maxStack := 2, maxLocals := 2, code := jdk_42_method_56_code, exceptionTable := #[], attributes := #[] }
def k7m3 : Method := { name := "charAt", desc := "(I)C", sig := { parameters := [.int], returnType := some .char }, accessFlags := 1, code := some k7c3 }
def k7c4 : Code := { maxStack := 3, maxLocals := 5, code := jdk_42_method_92_code, exceptionTable := #[], attributes := #[] }
def k7m4 : Method := { name := "substring", desc := "(II)Ljava/lang/String;", sig := { parameters := [.int, .int], returnType := some (.object "java/lang/String") }, accessFlags := 1, code := some k7c4 }
def k7c5 : Code := { maxStack := 4, maxLocals := 6, code := jdk_42_method_149_code, exceptionTable := #[], attributes := #[] }
def k7m5 : Method := { name := "<init>", desc := "([CIILjava/lang/Void;)V", sig := { parameters := [(.array .char), .int, .int, (.object "java/lang/Void")], returnType := none }, accessFlags := 2, code := some k7c5 }
def k7c6 : Code := { maxStack := 2, maxLocals := 3, code := jdk_42_method_151_code, exceptionTable := #[], attributes := #[] }
def k7m6 : Method := { name := "<init>", desc := "([BB)V", sig := { parameters := [(.array .byte), .byte], returnType := none }, accessFlags := 0, code := some k7c6 }
def k7c7 : Code := { maxStack := 1, maxLocals := 1, code := jdk_42_method_152_code, exceptionTable := #[], attributes := #[] }
def k7m7 : Method := { name := "coder", desc := "()B", sig := { parameters := [], returnType := some .byte }, accessFlags := 0, code := some k7c7 }
def k7c8 : Code := { maxStack := 1, maxLocals := 1, code := jdk_42_method_154_code, exceptionTable := #[], attributes := #[] }
def k7m8 : Method := { name := "isLatin1", desc := "()Z", sig := { parameters := [], returnType := some .boolean }, accessFlags := 0, code := some k7c8 }
def k7c9 : Code := { maxStack := 3, maxLocals := 2, code := jdk_42_method_155_code, exceptionTable := #[], attributes := #[] }
def k7m9 : Method := { name := "checkIndex", desc := "(II)V", sig := { parameters := [.int, .int], returnType := none }, accessFlags := 8, code := some k7c9 }
def k7c10 : Code := { maxStack := 4, maxLocals := 3, code := jdk_42_method_158_code, exceptionTable := #[], attributes := #[] }
def k7m10 : Method := { name := "checkBoundsBeginEnd", desc := "(III)V", sig := { parameters := [.int, .int, .int], returnType := none }, accessFlags := 8, code := some k7c10 }
/-- java/lang/String -/
def k7 : Class := { plain "java/lang/String" (some 0) with
  accessFlags := 49
  interfaces := #[2, 3, 4, 5, 6]
  cf := some (fileOf pool7 10 #[.nestMembers #[1103]] #[{ accessFlags := 1, nameIndex := 5, descriptorIndex := 6, attributes := #[] }, { accessFlags := 1, nameIndex := 5, descriptorIndex := 1010, attributes := #[] }, { accessFlags := 1, nameIndex := 507, descriptorIndex := 334, attributes := #[] }, { accessFlags := 1, nameIndex := 497, descriptorIndex := 427, attributes := #[] }, { accessFlags := 1, nameIndex := 683, descriptorIndex := 684, attributes := #[] }, { accessFlags := 2, nameIndex := 5, descriptorIndex := 29, attributes := #[] }, { accessFlags := 0, nameIndex := 5, descriptorIndex := 211, attributes := #[] }, { accessFlags := 0, nameIndex := 17, descriptorIndex := 337, attributes := #[] }, { accessFlags := 0, nameIndex := 494, descriptorIndex := 142, attributes := #[] }, { accessFlags := 8, nameIndex := 501, descriptorIndex := 391, attributes := #[] }, { accessFlags := 8, nameIndex := 523, descriptorIndex := 524, attributes := #[] }] 49 2 #[1106, 1108, 575, 1110, 1112] #[{ accessFlags := 18, nameIndex := 13, descriptorIndex := 14, attributes := #[] }, { accessFlags := 18, nameIndex := 17, descriptorIndex := 18, attributes := #[] }, { accessFlags := 2, nameIndex := 21, descriptorIndex := 22, attributes := #[] }, { accessFlags := 2, nameIndex := 25, descriptorIndex := 26, attributes := #[] }, { accessFlags := 26, nameIndex := 1116, descriptorIndex := 1117, attributes := #[] }, { accessFlags := 24, nameIndex := 40, descriptorIndex := 26, attributes := #[] }, { accessFlags := 26, nameIndex := 1101, descriptorIndex := 1102, attributes := #[] }, { accessFlags := 26, nameIndex := 1121, descriptorIndex := 1122, attributes := #[] }, { accessFlags := 25, nameIndex := 599, descriptorIndex := 600, attributes := #[] }, { accessFlags := 24, nameIndex := 1125, descriptorIndex := 18, attributes := #[] }, { accessFlags := 24, nameIndex := 1127, descriptorIndex := 18, attributes := #[] }])
  fields := #[{ name := "value", type := (.array .byte), accessFlags := 18, slot := 0, constantValue := 0 }, { name := "coder", type := .byte, accessFlags := 18, slot := 1, constantValue := 0 }, { name := "hash", type := .int, accessFlags := 2, slot := 2, constantValue := 0 }, { name := "hashIsZero", type := .boolean, accessFlags := 2, slot := 3, constantValue := 0 }, { name := "serialVersionUID", type := .long, accessFlags := 26, slot := 0, constantValue := 0 }, { name := "COMPACT_STRINGS", type := .boolean, accessFlags := 24, slot := 1, constantValue := 0 }, { name := "serialPersistentFields", type := (.array (.object "java/io/ObjectStreamField")), accessFlags := 26, slot := 2, constantValue := 0 }, { name := "REPL", type := .char, accessFlags := 26, slot := 3, constantValue := 0 }, { name := "CASE_INSENSITIVE_ORDER", type := (.object "java/util/Comparator"), accessFlags := 25, slot := 4, constantValue := 0 }, { name := "LATIN1", type := .byte, accessFlags := 24, slot := 5, constantValue := 0 }, { name := "UTF16", type := .byte, accessFlags := 24, slot := 6, constantValue := 0 }]
  methods := #[k7m0, k7m1, k7m2, k7m3, k7m4, k7m5, k7m6, k7m7, k7m8, k7m9, k7m10]
  instanceTypes := #[(.array .byte), .byte, .int, .boolean]
  staticTypes := #[.long, .boolean, (.array (.object "java/io/ObjectStreamField")), .char, (.object "java/util/Comparator"), .byte, .byte]
  resolved := Array.replicate 1451 none
  statics := some 0 }

def pool8 : Array CpInfo := pool [(6, .class_ 8), (1, u "java/lang/Object"), (0, u "<init>"), (0, u "()V"), (1, .class_ 14), (1, u "java/lang/StringUTF16"), (31, u "$assertionsDisabled"), (0, u "Z"), (13, u "HI_BYTE_SHIFT"), (0, u "I"), (2, u "LO_BYTE_SHIFT"), (49, .methodref 12 116), (0, .nameAndType 117 118), (0, u "compress"), (0, u "([CI[BII)I"), (3, u "([CII)[B"), (138, u "coderFromArrayLen"), (0, u "([BI)B"), (106, .class_ 371), (1, u "java/lang/StringUTF16$LinesSpliterator"), (58, u "MAX_LENGTH"), (196, .class_ 628), (0, u "java/lang/StringUTF16$CodePointsSpliterator"), (0, .class_ 630), (0, u "java/lang/StringUTF16$CharsSpliterator")] 4

def k8m0 : Method := { name := "<init>", desc := "()V", sig := { parameters := [], returnType := none }, accessFlags := 0, code := none }
def k8c1 : Code := { maxStack := 2, maxLocals := 2, code := jdk_52_method_15_code, exceptionTable := #[], attributes := #[] }
def k8m1 : Method := { name := "coderFromArrayLen", desc := "([BI)B", sig := { parameters := [(.array .byte), .int], returnType := some .byte }, accessFlags := 8, code := some k8c1 }
def k8c2 : Code := { maxStack := 5, maxLocals := 6, code := jdk_52_method_16_code, exceptionTable := #[], attributes := #[] }
def k8m2 : Method := { name := "compress", desc := "([CII)[B", sig := { parameters := [(.array .char), .int, .int], returnType := some (.array .byte) }, accessFlags := 9, code := some k8c2 }
def k8c3 : Code := { maxStack := 3, maxLocals := 7, code := jdk_52_method_21_code, exceptionTable := #[], attributes := #[] }
def k8m3 : Method := { name := "compress", desc := "([CI[BII)I", sig := { parameters := [(.array .char), .int, (.array .byte), .int, .int], returnType := some .int }, accessFlags := 9, code := some k8c3 }
/-- java/lang/StringUTF16 -/
def k8 : Class := { plain "java/lang/StringUTF16" (some 0) with
  accessFlags := 48
  interfaces := #[]
  cf := some (fileOf pool8 12 #[.nestMembers #[627, 629, 369]] #[{ accessFlags := 0, nameIndex := 9, descriptorIndex := 10, attributes := #[] }, { accessFlags := 8, nameIndex := 261, descriptorIndex := 262, attributes := #[] }, { accessFlags := 9, nameIndex := 117, descriptorIndex := 122, attributes := #[] }, { accessFlags := 9, nameIndex := 117, descriptorIndex := 118, attributes := #[] }] 48 6 #[] #[{ accessFlags := 26, nameIndex := 61, descriptorIndex := 62, attributes := #[] }, { accessFlags := 26, nameIndex := 65, descriptorIndex := 62, attributes := #[] }, { accessFlags := 24, nameIndex := 430, descriptorIndex := 62, attributes := #[] }, { accessFlags := 4120, nameIndex := 46, descriptorIndex := 47, attributes := #[] }])
  fields := #[{ name := "HI_BYTE_SHIFT", type := .int, accessFlags := 26, slot := 0, constantValue := 0 }, { name := "LO_BYTE_SHIFT", type := .int, accessFlags := 26, slot := 1, constantValue := 0 }, { name := "MAX_LENGTH", type := .int, accessFlags := 24, slot := 2, constantValue := 0 }, { name := "$assertionsDisabled", type := .boolean, accessFlags := 4120, slot := 3, constantValue := 0 }]
  methods := #[k8m0, k8m1, k8m2, k8m3]
  instanceTypes := #[]
  staticTypes := #[.int, .int, .int, .boolean]
  resolved := Array.replicate 635 none
  statics := none }

def pool9 : Array CpInfo := pool [(1, .class_ 2), (0, u "java/lang/Math"), (1, .class_ 6), (1, u "java/lang/Object"), (0, u "<init>"), (0, u "()V"), (89, .class_ 100), (1, u "java/lang/Math$RandomNumberGeneratorHolder"), (71, u "negativeZeroFloatBits"), (0, u "J"), (2, u "negativeZeroDoubleBits"), (21, u "max"), (2, u "min"), (43, u "$assertionsDisabled"), (0, u "Z"), (88, u "(II)I"), (2, u "twoToTheDoubleScaleDown"), (0, u "D"), (4, u "twoToTheDoubleScaleUp"), (9, u "E"), (3, u "PI"), (2, u "TAU"), (2, u "DEGREES_TO_RADIANS"), (0, u "RADIANS_TO_DEGREES")] 94

def k9m0 : Method := { name := "<init>", desc := "()V", sig := { parameters := [], returnType := none }, accessFlags := 2, code := none }
def k9c1 : Code := { maxStack := 2, maxLocals := 2, code := jdk_29_method_65_code, exceptionTable := #[], attributes := #[] }
def k9m1 : Method := { name := "max", desc := "(II)I", sig := { parameters := [.int, .int], returnType := some .int }, accessFlags := 9, code := some k9c1 }
def k9c2 : Code := { maxStack := 2, maxLocals := 2, code := jdk_29_method_69_code, exceptionTable := #[], attributes := #[] }
def k9m2 : Method := { name := "min", desc := "(II)I", sig := { parameters := [.int, .int], returnType := some .int }, accessFlags := 9, code := some k9c2 }
/-- java/lang/Math -/
def k9 : Class := { plain "java/lang/Math" (some 0) with
  accessFlags := 49
  interfaces := #[]
  cf := some (fileOf pool9 1 #[.nestMembers #[98]] #[{ accessFlags := 2, nameIndex := 7, descriptorIndex := 8, attributes := #[] }, { accessFlags := 9, nameIndex := 198, descriptorIndex := 335, attributes := #[] }, { accessFlags := 9, nameIndex := 201, descriptorIndex := 335, attributes := #[] }] 49 4 #[] #[{ accessFlags := 25, nameIndex := 354, descriptorIndex := 339, attributes := #[] }, { accessFlags := 25, nameIndex := 358, descriptorIndex := 339, attributes := #[] }, { accessFlags := 25, nameIndex := 361, descriptorIndex := 339, attributes := #[] }, { accessFlags := 26, nameIndex := 364, descriptorIndex := 339, attributes := #[] }, { accessFlags := 26, nameIndex := 365, descriptorIndex := 339, attributes := #[] }, { accessFlags := 26, nameIndex := 172, descriptorIndex := 173, attributes := #[] }, { accessFlags := 26, nameIndex := 176, descriptorIndex := 173, attributes := #[] }, { accessFlags := 8, nameIndex := 344, descriptorIndex := 339, attributes := #[] }, { accessFlags := 8, nameIndex := 338, descriptorIndex := 339, attributes := #[] }, { accessFlags := 4120, nameIndex := 245, descriptorIndex := 246, attributes := #[] }])
  fields := #[{ name := "E", type := .double, accessFlags := 25, slot := 0, constantValue := 0 }, { name := "PI", type := .double, accessFlags := 25, slot := 1, constantValue := 0 }, { name := "TAU", type := .double, accessFlags := 25, slot := 2, constantValue := 0 }, { name := "DEGREES_TO_RADIANS", type := .double, accessFlags := 26, slot := 3, constantValue := 0 }, { name := "RADIANS_TO_DEGREES", type := .double, accessFlags := 26, slot := 4, constantValue := 0 }, { name := "negativeZeroFloatBits", type := .long, accessFlags := 26, slot := 5, constantValue := 0 }, { name := "negativeZeroDoubleBits", type := .long, accessFlags := 26, slot := 6, constantValue := 0 }, { name := "twoToTheDoubleScaleUp", type := .double, accessFlags := 8, slot := 7, constantValue := 0 }, { name := "twoToTheDoubleScaleDown", type := .double, accessFlags := 8, slot := 8, constantValue := 0 }, { name := "$assertionsDisabled", type := .boolean, accessFlags := 4120, slot := 9, constantValue := 0 }]
  methods := #[k9m0, k9m1, k9m2]
  instanceTypes := #[]
  staticTypes := #[.double, .double, .double, .double, .double, .long, .long, .double, .double, .boolean]
  resolved := Array.replicate 460 none
  statics := none }

def pool10 : Array CpInfo := pool [(1, .methodref 2 3), (0, .class_ 4), (0, .nameAndType 5 6), (0, u "java/lang/Object"), (0, u "<init>"), (0, u "()V"), (0, .class_ 8), (0, u "java/lang/Record")] 13

def k10c0 : Code := { maxStack := 1, maxLocals := 1, code := jdk_30_method_1_code, exceptionTable := #[], attributes := #[] }
def k10m0 : Method := { name := "<init>", desc := "()V", sig := { parameters := [], returnType := none }, accessFlags := 4, code := some k10c0 }
/-- java/lang/Record -/
def k10 : Class := { plain "java/lang/Record" (some 0) with
  accessFlags := 1057
  interfaces := #[]
  cf := some (fileOf pool10 7 #[] #[{ accessFlags := 4, nameIndex := 5, descriptorIndex := 6, attributes := #[] }] 1057 2 #[] #[])
  fields := #[]
  methods := #[k10m0]
  instanceTypes := #[]
  staticTypes := #[]
  resolved := Array.replicate 22 none
  statics := none }

def pool11 : Array CpInfo := pool [(1, .methodref 2 3), (0, .class_ 4), (0, .nameAndType 5 6), (0, u "java/lang/Record"), (0, u "<init>"), (0, u "()V"), (0, .fieldref 8 9), (0, .class_ 10), (0, .nameAndType 11 12), (0, u "com/example/capstrike/capstrike/TermText$Written"), (0, u "text"), (0, u "Ljava/lang/String;"), (0, .fieldref 8 14), (0, .nameAndType 15 16), (0, u "start"), (0, u "I"), (0, .fieldref 8 18), (0, .nameAndType 19 16), (0, u "end"), (11, .class_ 33), (1, u "java/lang/String"), (8, u "(Ljava/lang/String;II)V"), (0, .methodref 31 44), (0, .nameAndType 45 46), (0, u "substring"), (0, u "(II)Ljava/lang/String;"), (8, .class_ 56), (0, u "java/lang/CharSequence"), (5, u "toString"), (0, u "()Ljava/lang/String;"), (4, .class_ 69), (0, u "com/example/capstrike/capstrike/TermText")] 21

def k11c0 : Code := { maxStack := 2, maxLocals := 4, code := prog_77_method_1_code, exceptionTable := #[], attributes := #[] }
def k11m0 : Method := { name := "<init>", desc := "(Ljava/lang/String;II)V", sig := { parameters := [(.object "java/lang/String"), .int, .int], returnType := none }, accessFlags := 0, code := some k11c0 }
def k11c1 : Code := { maxStack := 3, maxLocals := 1, code := prog_77_method_5_code, exceptionTable := #[], attributes := #[] }
def k11m1 : Method := { name := "toString", desc := "()Ljava/lang/String;", sig := { parameters := [], returnType := some (.object "java/lang/String") }, accessFlags := 1, code := some k11c1 }
/-- com/example/capstrike/capstrike/TermText$Written -/
def k11 : Class := { plain "com/example/capstrike/capstrike/TermText$Written" (some 10) with
  accessFlags := 48
  interfaces := #[4]
  cf := some (fileOf pool11 8 #[.nestHost 68] #[{ accessFlags := 0, nameIndex := 5, descriptorIndex := 42, attributes := #[] }, { accessFlags := 1, nameIndex := 62, descriptorIndex := 63, attributes := #[] }] 48 2 #[55] #[{ accessFlags := 18, nameIndex := 11, descriptorIndex := 12, attributes := #[] }, { accessFlags := 18, nameIndex := 15, descriptorIndex := 16, attributes := #[] }, { accessFlags := 18, nameIndex := 19, descriptorIndex := 16, attributes := #[] }])
  fields := #[{ name := "text", type := (.object "java/lang/String"), accessFlags := 18, slot := 0, constantValue := 0 }, { name := "start", type := .int, accessFlags := 18, slot := 1, constantValue := 0 }, { name := "end", type := .int, accessFlags := 18, slot := 2, constantValue := 0 }]
  methods := #[k11m0, k11m1]
  instanceTypes := #[(.object "java/lang/String"), .int, .int]
  staticTypes := #[]
  resolved := Array.replicate 91 none
  statics := none }

def pool12 : Array CpInfo := pool [(2, .class_ 4), (1, u "java/lang/Object"), (0, u "<init>"), (0, u "()V"), (17, .class_ 26), (1, u "jdk/internal/util/Preconditions"), (6, u "checkIndex"), (13, u "checkFromToIndex"), (7, .class_ 56), (0, u "jdk/internal/util/Preconditions$4"), (57, .class_ 115), (0, u "jdk/internal/util/Preconditions$1"), (7, u "SIOOBE_FORMATTER"), (0, u "Ljava/util/function/BiFunction;"), (0, .class_ 126), (0, u "jdk/internal/util/Preconditions$2"), (3, u "AIOOBE_FORMATTER"), (0, .class_ 132), (0, u "jdk/internal/util/Preconditions$3"), (3, u "IOOBE_FORMATTER"), (41, u "(IILjava/util/function/BiFunction;)I"), (4, u "(IIILjava/util/function/BiFunction;)I")] 10

def k12m0 : Method := { name := "<init>", desc := "()V", sig := { parameters := [], returnType := none }, accessFlags := 1, code := none }
def k12c1 : Code := { maxStack := 3, maxLocals := 3, code := jdk_41_method_11_code, exceptionTable := #[], attributes := #[] }
def k12m1 : Method := { name := "checkIndex", desc := "(IILjava/util/function/BiFunction;)I", sig := { parameters := [.int, .int, (.object "java/util/function/BiFunction")], returnType := some .int }, accessFlags := 9, code := some k12c1 }
def k12c2 : Code := { maxStack := 4, maxLocals := 4, code := jdk_41_method_12_code, exceptionTable := #[], attributes := #[] }
def k12m2 : Method := { name := "checkFromToIndex", desc := "(IIILjava/util/function/BiFunction;)I", sig := { parameters := [.int, .int, .int, (.object "java/util/function/BiFunction")], returnType := some .int }, accessFlags := 9, code := some k12c2 }
/-- jdk/internal/util/Preconditions -/
def k12 : Class := { plain "jdk/internal/util/Preconditions" (some 0) with
  accessFlags := 33
  interfaces := #[]
  cf := some (fileOf pool12 24 #[.nestMembers #[55, 131, 125, 114]] #[{ accessFlags := 1, nameIndex := 5, descriptorIndex := 6, attributes := #[] }, { accessFlags := 9, nameIndex := 33, descriptorIndex := 178, attributes := #[] }, { accessFlags := 9, nameIndex := 47, descriptorIndex := 183, attributes := #[] }] 33 2 #[] #[{ accessFlags := 25, nameIndex := 123, descriptorIndex := 124, attributes := #[] }, { accessFlags := 25, nameIndex := 130, descriptorIndex := 124, attributes := #[] }, { accessFlags := 25, nameIndex := 136, descriptorIndex := 124, attributes := #[] }])
  fields := #[{ name := "SIOOBE_FORMATTER", type := (.object "java/util/function/BiFunction"), accessFlags := 25, slot := 0, constantValue := 0 }, { name := "AIOOBE_FORMATTER", type := (.object "java/util/function/BiFunction"), accessFlags := 25, slot := 1, constantValue := 0 }, { name := "IOOBE_FORMATTER", type := (.object "java/util/function/BiFunction"), accessFlags := 25, slot := 2, constantValue := 0 }]
  methods := #[k12m0, k12m1, k12m2]
  instanceTypes := #[]
  staticTypes := #[(.object "java/util/function/BiFunction"), (.object "java/util/function/BiFunction"), (.object "java/util/function/BiFunction")]
  resolved := Array.replicate 194 none
  statics := some 1 }

def pool13 : Array CpInfo := pool [(1, .class_ 2), (0, u "java/lang/String"), (1, .class_ 6), (1, u "java/lang/Object"), (0, u "<init>"), (0, u "()V"), (0, .methodref 1 10), (0, .nameAndType 11 12), (0, u "checkIndex"), (0, u "(II)V"), (1, .class_ 16), (1, u "java/lang/StringLatin1"), (36, u "([BI)C"), (58, .methodref 1 113), (0, .nameAndType 7 114), (0, u "([BB)V"), (6, u "$assertionsDisabled"), (0, u "Z"), (8, .class_ 133), (1, u "java/util/Arrays"), (17, .string 152), (0, u ""), (43, u "newString"), (0, u "([BII)Ljava/lang/String;"), (23, .class_ 223), (1, u "java/lang/StringLatin1$LinesSpliterator"), (8, .methodref 131 233), (0, .nameAndType 234 235), (0, u "copyOfRange"), (0, u "([BII)[B"), (16, u "charAt"), (137, .class_ 391), (0, u "java/lang/StringLatin1$CharsSpliterator")] 3

def k13m0 : Method := { name := "<init>", desc := "()V", sig := { parameters := [], returnType := none }, accessFlags := 0, code := none }
def k13c1 : Code := { maxStack := 2, maxLocals := 2, code := jdk_43_method_2_code, exceptionTable := #[], attributes := #[] }
def k13m1 : Method := { name := "charAt", desc := "([BI)C", sig := { parameters := [(.array .byte), .int], returnType := some .char }, accessFlags := 9, code := some k13c1 }
def k13c2 : Code := { maxStack := 6, maxLocals := 3, code := jdk_43_method_47_code, exceptionTable := #[], attributes := #[] }
def k13m2 : Method := { name := "newString", desc := "([BII)Ljava/lang/String;", sig := { parameters := [(.array .byte), .int, .int], returnType := some (.object "java/lang/String") }, accessFlags := 9, code := some k13c2 }
/-- java/lang/StringLatin1 -/
def k13 : Class := { plain "java/lang/StringLatin1" (some 0) with
  accessFlags := 48
  interfaces := #[]
  cf := some (fileOf pool13 14 #[.nestMembers #[390, 221]] #[{ accessFlags := 0, nameIndex := 7, descriptorIndex := 8, attributes := #[] }, { accessFlags := 9, nameIndex := 252, descriptorIndex := 53, attributes := #[] }, { accessFlags := 9, nameIndex := 196, descriptorIndex := 197, attributes := #[] }] 48 4 #[] #[{ accessFlags := 4120, nameIndex := 121, descriptorIndex := 122, attributes := #[] }])
  fields := #[{ name := "$assertionsDisabled", type := .boolean, accessFlags := 4120, slot := 0, constantValue := 0 }]
  methods := #[k13m0, k13m1, k13m2]
  instanceTypes := #[]
  staticTypes := #[.boolean]
  resolved := Array.replicate 395 none
  statics := none }

def pool14 : Array CpInfo := pool [(2, .class_ 4), (1, u "java/lang/Object"), (0, u "<init>"), (0, u "()V"), (7, .class_ 16), (1, u "java/util/Arrays"), (57, .class_ 76), (1, u "java/util/Arrays$NaturalOrder"), (36, .class_ 115), (1, u "java/util/Arrays$LegacyMergeSort"), (1, u "Z"), (21, u "copyOfRange"), (10, .methodref 151 152), (0, .class_ 153), (0, .nameAndType 154 155), (0, u "java/lang/System"), (0, u "arraycopy"), (0, u "(Ljava/lang/Object;ILjava/lang/Object;II)V"), (148, .methodref 305 306), (0, .class_ 307), (0, .nameAndType 308 309), (0, u "java/lang/Math"), (0, u "min"), (0, u "(II)I"), (29, .methodref 14 340), (0, .nameAndType 341 342), (0, u "copyOfRangeByte"), (0, u "([BII)[B"), (0, .methodref 14 344), (0, .nameAndType 345 346), (0, u "checkLength"), (0, u "(II)V"), (28, .class_ 376), (0, u "java/util/Arrays$ArrayList"), (68, u "$assertionsDisabled"), (269, u "MIN_ARRAY_SORT_GRAN"), (0, u "I"), (2, u "INSERTIONSORT_THRESHOLD"), (255, .class_ 976), (0, u "java/util/Arrays$ArrayItr")] 52

def k14m0 : Method := { name := "<init>", desc := "()V", sig := { parameters := [], returnType := none }, accessFlags := 2, code := none }
def k14c1 : Code := { maxStack := 4, maxLocals := 2, code := jdk_65_method_131_code, exceptionTable := #[], attributes := #[] }
def k14m1 : Method := { name := "checkLength", desc := "(II)V", sig := { parameters := [.int, .int], returnType := none }, accessFlags := 10, code := some k14c1 }
def k14c2 : Code := { maxStack := 3, maxLocals := 3, code := jdk_65_method_132_code, exceptionTable := #[], attributes := #[] }
def k14m2 : Method := { name := "copyOfRange", desc := "([BII)[B", sig := { parameters := [(.array .byte), .int, .int], returnType := some (.array .byte) }, accessFlags := 9, code := some k14c2 }
def k14c3 : Code := { maxStack := 6, maxLocals := 5, code := jdk_65_method_133_code, exceptionTable := #[], attributes := #[] }
def k14m3 : Method := { name := "copyOfRangeByte", desc := "([BII)[B", sig := { parameters := [(.array .byte), .int, .int], returnType := some (.array .byte) }, accessFlags := 10, code := some k14c3 }
/-- java/util/Arrays -/
def k14 : Class := { plain "java/util/Arrays" (some 0) with
  accessFlags := 49
  interfaces := #[]
  cf := some (fileOf pool14 14 #[.nestMembers #[975, 375, 113, 74]] #[{ accessFlags := 2, nameIndex := 5, descriptorIndex := 6, attributes := #[] }, { accessFlags := 10, nameIndex := 345, descriptorIndex := 346, attributes := #[] }, { accessFlags := 9, nameIndex := 139, descriptorIndex := 342, attributes := #[] }, { accessFlags := 10, nameIndex := 341, descriptorIndex := 342, attributes := #[] }] 49 2 #[] #[{ accessFlags := 26, nameIndex := 715, descriptorIndex := 716, attributes := #[] }, { accessFlags := 26, nameIndex := 719, descriptorIndex := 716, attributes := #[] }, { accessFlags := 4120, nameIndex := 445, descriptorIndex := 117, attributes := #[] }])
  fields := #[{ name := "MIN_ARRAY_SORT_GRAN", type := .int, accessFlags := 26, slot := 0, constantValue := 0 }, { name := "INSERTIONSORT_THRESHOLD", type := .int, accessFlags := 26, slot := 1, constantValue := 0 }, { name := "$assertionsDisabled", type := .boolean, accessFlags := 4120, slot := 2, constantValue := 0 }]
  methods := #[k14m0, k14m1, k14m2, k14m3]
  instanceTypes := #[]
  staticTypes := #[.int, .int, .boolean]
  resolved := Array.replicate 1029 none
  statics := none }

def pool15 : Array CpInfo := pool [(2, .class_ 4), (1, u "java/lang/Object"), (0, u "<init>"), (0, u "()V"), (1, .class_ 10), (1, u "java/lang/System"), (0, u "allowSecurityManager"), (0, u "I"), (16, u "cons"), (0, u "Ljava/io/Console;"), (77, .class_ 110), (1, u "java/lang/System$CallersHolder"), (43, u "initialErrStream"), (0, u "Ljava/io/PrintStream;"), (19, u "security"), (0, u "Ljava/lang/SecurityManager;"), (31, .class_ 209), (0, u "java/lang/System$1"), (7, u "props"), (0, u "Ljava/util/Properties;"), (2, u "lineSeparator"), (0, u "Ljava/lang/String;"), (96, .class_ 321), (1, u "java/lang/System$LoggerFinder"), (5, .class_ 328), (0, u "java/lang/System$Logger"), (67, u "err"), (2, u "out"), (91, u "notSupportedJnuEncoding"), (15, u "in"), (17, u "initialIn"), (0, u "Ljava/io/InputStream;"), (35, u "bootLayer"), (0, u "Ljava/lang/ModuleLayer;"), (99, .class_ 664), (0, u "java/lang/System$2"), (9, u "NEVER"), (2, u "MAYBE"), (49, u "arraycopy"), (0, u "(Ljava/lang/Object;ILjava/lang/Object;II)V"), (72, .class_ 802), (0, u "java/lang/System$Logger$Level")] 31

def k15m0 : Method := { name := "<init>", desc := "()V", sig := { parameters := [], returnType := none }, accessFlags := 2, code := none }
def k15m1 : Method := { name := "arraycopy", desc := "(Ljava/lang/Object;ILjava/lang/Object;II)V", sig := { parameters := [(.object "java/lang/Object"), .int, (.object "java/lang/Object"), .int, .int], returnType := none }, accessFlags := 265, code := none }
/-- java/lang/System -/
def k15 : Class := { plain "java/lang/System" (some 0) with
  accessFlags := 49
  interfaces := #[]
  cf := some (fileOf pool15 8 #[.nestMembers #[319, 327, 801, 108, 663, 208]] #[{ accessFlags := 2, nameIndex := 5, descriptorIndex := 6, attributes := #[] }, { accessFlags := 265, nameIndex := 727, descriptorIndex := 728, attributes := #[] }] 49 2 #[] #[{ accessFlags := 25, nameIndex := 507, descriptorIndex := 526, attributes := #[] }, { accessFlags := 25, nameIndex := 399, descriptorIndex := 155, attributes := #[] }, { accessFlags := 25, nameIndex := 396, descriptorIndex := 155, attributes := #[] }, { accessFlags := 10, nameIndex := 525, descriptorIndex := 526, attributes := #[] }, { accessFlags := 26, nameIndex := 674, descriptorIndex := 12, attributes := #[] }, { accessFlags := 26, nameIndex := 677, descriptorIndex := 12, attributes := #[] }, { accessFlags := 10, nameIndex := 11, descriptorIndex := 12, attributes := #[] }, { accessFlags := 74, nameIndex := 175, descriptorIndex := 176, attributes := #[] }, { accessFlags := 10, nameIndex := 491, descriptorIndex := 222, attributes := #[] }, { accessFlags := 74, nameIndex := 29, descriptorIndex := 30, attributes := #[] }, { accessFlags := 74, nameIndex := 154, descriptorIndex := 155, attributes := #[] }, { accessFlags := 10, nameIndex := 217, descriptorIndex := 218, attributes := #[] }, { accessFlags := 10, nameIndex := 221, descriptorIndex := 222, attributes := #[] }, { accessFlags := 8, nameIndex := 562, descriptorIndex := 563, attributes := #[] }])
  fields := #[{ name := "in", type := (.object "java/io/InputStream"), accessFlags := 25, slot := 0, constantValue := 0 }, { name := "out", type := (.object "java/io/PrintStream"), accessFlags := 25, slot := 1, constantValue := 0 }, { name := "err", type := (.object "java/io/PrintStream"), accessFlags := 25, slot := 2, constantValue := 0 }, { name := "initialIn", type := (.object "java/io/InputStream"), accessFlags := 10, slot := 3, constantValue := 0 }, { name := "NEVER", type := .int, accessFlags := 26, slot := 4, constantValue := 0 }, { name := "MAYBE", type := .int, accessFlags := 26, slot := 5, constantValue := 0 }, { name := "allowSecurityManager", type := .int, accessFlags := 10, slot := 6, constantValue := 0 }, { name := "security", type := (.object "java/lang/SecurityManager"), accessFlags := 74, slot := 7, constantValue := 0 }, { name := "notSupportedJnuEncoding", type := (.object "java/lang/String"), accessFlags := 10, slot := 8, constantValue := 0 }, { name := "cons", type := (.object "java/io/Console"), accessFlags := 74, slot := 9, constantValue := 0 }, { name := "initialErrStream", type := (.object "java/io/PrintStream"), accessFlags := 74, slot := 10, constantValue := 0 }, { name := "props", type := (.object "java/util/Properties"), accessFlags := 10, slot := 11, constantValue := 0 }, { name := "lineSeparator", type := (.object "java/lang/String"), accessFlags := 10, slot := 12, constantValue := 0 }, { name := "bootLayer", type := (.object "java/lang/ModuleLayer"), accessFlags := 8, slot := 13, constantValue := 0 }]
  methods := #[k15m0, k15m1]
  instanceTypes := #[]
  staticTypes := #[(.object "java/io/InputStream"), (.object "java/io/PrintStream"), (.object "java/io/PrintStream"), (.object "java/io/InputStream"), .int, .int, .int, (.object "java/lang/SecurityManager"), (.object "java/lang/String"), (.object "java/io/Console"), (.object "java/io/PrintStream"), (.object "java/util/Properties"), (.object "java/lang/String"), (.object "java/lang/ModuleLayer")]
  resolved := Array.replicate 834 none
  statics := none }

def pool16 : Array CpInfo := pool [(9, u "<init>"), (6, .class_ 18), (1, u "java/lang/Object"), (0, u "()V"), (1, .class_ 23), (1, u "jdk/internal/util/ArraysSupport"), (0, u "LOG2_ARRAY_LONG_INDEX_SCALE"), (0, u "I"), (2, u "U"), (0, u "Ljdk/internal/misc/Unsafe;"), (8, u "BIG_ENDIAN"), (0, u "Z"), (8, u "LOG2_BYTE_BIT_SIZE"), (4, u "LOG2_ARRAY_INT_INDEX_SCALE"), (54, u "JLA"), (0, u "Ljdk/internal/access/JavaLangAccess;"), (11, u "LOG2_ARRAY_BOOLEAN_INDEX_SCALE"), (9, u "LOG2_ARRAY_BYTE_INDEX_SCALE"), (5, u "LOG2_ARRAY_CHAR_INDEX_SCALE"), (5, u "LOG2_ARRAY_SHORT_INDEX_SCALE"), (18, u "LOG2_ARRAY_FLOAT_INDEX_SCALE"), (24, u "LOG2_ARRAY_DOUBLE_INDEX_SCALE"), (89, u "T_BOOLEAN"), (2, u "T_CHAR"), (1, u "T_FLOAT"), (1, u "T_DOUBLE"), (1, u "T_BYTE"), (1, u "T_SHORT"), (1, u "T_INT"), (1, u "T_LONG"), (1, u "SOFT_MAX_ARRAY_LENGTH")] 83

def k16m0 : Method := { name := "<init>", desc := "()V", sig := { parameters := [], returnType := none }, accessFlags := 2, code := none }
/-- jdk/internal/util/ArraysSupport -/
def k16 : Class := { plain "jdk/internal/util/ArraysSupport" (some 0) with
  accessFlags := 33
  interfaces := #[]
  cf := some (fileOf pool16 21 #[] #[{ accessFlags := 2, nameIndex := 9, descriptorIndex := 19, attributes := #[] }] 33 16 #[] #[{ accessFlags := 24, nameIndex := 28, descriptorIndex := 29, attributes := #[] }, { accessFlags := 26, nameIndex := 38, descriptorIndex := 39, attributes := #[] }, { accessFlags := 25, nameIndex := 121, descriptorIndex := 25, attributes := #[] }, { accessFlags := 25, nameIndex := 131, descriptorIndex := 25, attributes := #[] }, { accessFlags := 25, nameIndex := 137, descriptorIndex := 25, attributes := #[] }, { accessFlags := 25, nameIndex := 143, descriptorIndex := 25, attributes := #[] }, { accessFlags := 25, nameIndex := 53, descriptorIndex := 25, attributes := #[] }, { accessFlags := 25, nameIndex := 24, descriptorIndex := 25, attributes := #[] }, { accessFlags := 25, nameIndex := 162, descriptorIndex := 25, attributes := #[] }, { accessFlags := 25, nameIndex := 187, descriptorIndex := 25, attributes := #[] }, { accessFlags := 26, nameIndex := 48, descriptorIndex := 25, attributes := #[] }, { accessFlags := 25, nameIndex := 277, descriptorIndex := 25, attributes := #[] }, { accessFlags := 25, nameIndex := 280, descriptorIndex := 25, attributes := #[] }, { accessFlags := 25, nameIndex := 282, descriptorIndex := 25, attributes := #[] }, { accessFlags := 25, nameIndex := 284, descriptorIndex := 25, attributes := #[] }, { accessFlags := 25, nameIndex := 286, descriptorIndex := 25, attributes := #[] }, { accessFlags := 25, nameIndex := 288, descriptorIndex := 25, attributes := #[] }, { accessFlags := 25, nameIndex := 290, descriptorIndex := 25, attributes := #[] }, { accessFlags := 25, nameIndex := 292, descriptorIndex := 25, attributes := #[] }, { accessFlags := 26, nameIndex := 108, descriptorIndex := 109, attributes := #[] }, { accessFlags := 25, nameIndex := 294, descriptorIndex := 25, attributes := #[] }])
  fields := #[{ name := "U", type := (.object "jdk/internal/misc/Unsafe"), accessFlags := 24, slot := 0, constantValue := 0 }, { name := "BIG_ENDIAN", type := .boolean, accessFlags := 26, slot := 1, constantValue := 0 }, { name := "LOG2_ARRAY_BOOLEAN_INDEX_SCALE", type := .int, accessFlags := 25, slot := 2, constantValue := 0 }, { name := "LOG2_ARRAY_BYTE_INDEX_SCALE", type := .int, accessFlags := 25, slot := 3, constantValue := 0 }, { name := "LOG2_ARRAY_CHAR_INDEX_SCALE", type := .int, accessFlags := 25, slot := 4, constantValue := 0 }, { name := "LOG2_ARRAY_SHORT_INDEX_SCALE", type := .int, accessFlags := 25, slot := 5, constantValue := 0 }, { name := "LOG2_ARRAY_INT_INDEX_SCALE", type := .int, accessFlags := 25, slot := 6, constantValue := 0 }, { name := "LOG2_ARRAY_LONG_INDEX_SCALE", type := .int, accessFlags := 25, slot := 7, constantValue := 0 }, { name := "LOG2_ARRAY_FLOAT_INDEX_SCALE", type := .int, accessFlags := 25, slot := 8, constantValue := 0 }, { name := "LOG2_ARRAY_DOUBLE_INDEX_SCALE", type := .int, accessFlags := 25, slot := 9, constantValue := 0 }, { name := "LOG2_BYTE_BIT_SIZE", type := .int, accessFlags := 26, slot := 10, constantValue := 0 }, { name := "T_BOOLEAN", type := .int, accessFlags := 25, slot := 11, constantValue := 0 }, { name := "T_CHAR", type := .int, accessFlags := 25, slot := 12, constantValue := 0 }, { name := "T_FLOAT", type := .int, accessFlags := 25, slot := 13, constantValue := 0 }, { name := "T_DOUBLE", type := .int, accessFlags := 25, slot := 14, constantValue := 0 }, { name := "T_BYTE", type := .int, accessFlags := 25, slot := 15, constantValue := 0 }, { name := "T_SHORT", type := .int, accessFlags := 25, slot := 16, constantValue := 0 }, { name := "T_INT", type := .int, accessFlags := 25, slot := 17, constantValue := 0 }, { name := "T_LONG", type := .int, accessFlags := 25, slot := 18, constantValue := 0 }, { name := "JLA", type := (.object "jdk/internal/access/JavaLangAccess"), accessFlags := 26, slot := 19, constantValue := 0 }, { name := "SOFT_MAX_ARRAY_LENGTH", type := .int, accessFlags := 25, slot := 20, constantValue := 0 }]
  methods := #[k16m0]
  instanceTypes := #[]
  staticTypes := #[(.object "jdk/internal/misc/Unsafe"), .boolean, .int, .int, .int, .int, .int, .int, .int, .int, .int, .int, .int, .int, .int, .int, .int, .int, .int, (.object "jdk/internal/access/JavaLangAccess"), .int]
  resolved := Array.replicate 378 none
  statics := none }

def pool17 : Array CpInfo := pool [(1, u "java/lang/Cloneable"), (0, .class_ 1), (0, u "java/lang/Object"), (0, .class_ 3)] 3

/-- java/lang/Cloneable -/
def k17 : Class := { plain "java/lang/Cloneable" (some 0) with
  accessFlags := 1537
  interfaces := #[]
  cf := some (fileOf pool17 2 #[] #[] 1537 4 #[] #[])
  fields := #[]
  methods := #[]
  instanceTypes := #[]
  staticTypes := #[]
  resolved := Array.replicate 8 none
  statics := none }

/-- the primitive byte -/
def k18 : Class := { plain "byte" none with kind := .primitive 'B', accessFlags := 0x411 }
/-- [B -/
def k19 : Class := { plain "[B" (some 0) with kind := .array 18 .byte, interfaces := #[17, 2], accessFlags := 1041 }

/-- the primitive char -/
def k20 : Class := { plain "char" none with kind := .primitive 'C', accessFlags := 0x411 }
/-- [C -/
def k21 : Class := { plain "[C" (some 0) with kind := .array 20 .char, interfaces := #[17, 2], accessFlags := 1041 }

/-- the primitive int -/
def k22 : Class := { plain "int" none with kind := .primitive 'I', accessFlags := 0x411 }
/-- [I -/
def k23 : Class := { plain "[I" (some 0) with kind := .array 22 .int, interfaces := #[17, 2], accessFlags := 1041 }

def heap : Heap := #[{ cls := 7, slots := #[.long 0, .int 1, .null, .int 0, .null, .int 0, .int 0], vm := .statics 7 },
  { cls := 12, slots := #[.null, .null, .null], vm := .statics 12 }]
def classes : Array Class := #[k0, k1, k2, k3, k4, k5, k6, k7, k8, k9, k10, k11, k12, k13, k14, k15, k16, k17, k18, k19, k20, k21, k22, k23]
def interned : List (Array UInt16 × Addr) := []
def slotsUsed : Nat := 10
def theMethod : MethodId := ⟨1, 2⟩
def args0 : Array Value := #[.int 5, .int 5, .int 5, .int 5, .int 5, .int 5]
def aboutOver (below : List Frame) : State where
  vm := { classes := classes, interned := interned.toArray }
  heap := heap
  slotsUsed := slotsUsed
  threads := #[{ frames := .invoking theMethod args0 :: below }]
def below0 : List Frame := [.native { method := ⟨0, 0⟩, args := #[] }]
def about1 : State := aboutOver below0
def p0 : Program := .bare "" "" ""
def e0 : Env := launch0.env 0 0 0
theorem w_frames : about1.frames = Frame.invoking theMethod args0 :: below0 := rfl
set_option maxRecDepth 65536 in
theorem w_args : argsFit about1.vm theMethod args0 = true := by decide +kernel
set_option maxRecDepth 65536 in
theorem w_heap : heapFits about1 = true := by decide +kernel
set_option maxRecDepth 65536 in
theorem w_runnable : about1.curStatus? = some .runnable := by decide +kernel
set_option maxRecDepth 65536 in
theorem w_alone : about1.alone = true := by decide +kernel
set_option maxRecDepth 65536 in
theorem w_named : about1.methodNamed? x = some theMethod := by decide +kernel
set_option maxRecDepth 65536 in
theorem w_hears : about1.hears theMethod below0 = true := by decide +kernel
set_option maxRecDepth 65536 in
theorem w_ripe : about1.ripe theMethod args0 below0 = true := by decide +kernel
theorem w_running : about1.status = .running := rfl
set_option maxRecDepth 65536 in
theorem w_room : about1.hasRoom e0.platform room_1 = true :=
  launch0.hasRoom_least _ room_1 (by decide +kernel) (by decide +kernel) (by decide +kernel) (by decide +kernel) (by decide +kernel) (by decide +kernel)
theorem allAtoms_all (ts : List Jvm.Cond) (a : Array Jvm.Value) (st : Jvm.State) : (allAtoms ts).before a st = ts.all (fun c => c.before a st) := by
  induction ts with
  | nil => rfl
  | cons c t ih =>
    show (Jvm.Cond.and c (allAtoms t)).before a st = _
    rw [Jvm.Cond.before_and, ih, List.all_cons]
def words1 : List Jvm.Cond := Jvm.Cond.code x code maxLocals ret :: tables_1
/-- a 'code' word, met by the world's own term for the bytes: nothing is compared byte by byte -/
theorem code_word {y : MethodName} {bytes : ByteArray} {mx : Nat} {rt : Option FieldType} {a : Array Value} {s : State} {m : MethodId} {meth : Method} {c : Code} (h1 : s.methodNamed? y = some m) (h2 : s.vm.method? m = some meth) (h3 : meth.code = some c) (h4 : c.code = bytes)
    (h5 : (c.maxLocals == mx && c.exceptionTable.isEmpty && decide (c.maxStack ≤ mostOperands) && decide (meth.sig.returnType = rt) && !meth.locks && decide (parseMethodDescriptor y.desc = some meth.sig)) = true) : (Jvm.Cond.code y bytes mx rt).before a s = true := by
  simp only [Bool.and_eq_true, beq_iff_eq, Bool.not_eq_true', decide_eq_true_eq] at h5
  obtain ⟨⟨⟨⟨⟨g1, g2⟩, g3⟩, g4⟩, g5⟩, g6⟩ := h5
  simp [Cond.before, Cond.holds, Cond.value, h1, h2, h3, h4, g1, g2, g3, g4, g5, g6]
def isCode : Jvm.Cond → Bool
  | .code _ _ _ _ => true
  | _ => false
theorem all_split {L : List Jvm.Cond} {P : Jvm.Cond → Bool} (h1 : L.all (fun c => isCode c || P c) = true) (h2 : ∀ c ∈ L.filter isCode, P c = true) : L.all P = true := by
  refine List.all_eq_true.mpr fun c hc => ?_
  have h := List.all_eq_true.mp h1 c hc
  rcases Bool.eq_false_or_eq_true (isCode c) with hi | hi
  · exact h2 c (List.mem_filter.mpr ⟨hc, hi⟩)
  · simpa [hi] using h
set_option maxRecDepth 65536 in
theorem w_c0 : (Jvm.Cond.code x code maxLocals ret).before args0 about1 = true := code_word (m := ⟨1, 2⟩) (meth := k1m2) (c := k1c2) (by decide +kernel) rfl rfl rfl (by decide +kernel)
set_option maxRecDepth 65536 in
theorem w_c1 : (Jvm.Cond.code ({ cls := "java/lang/String", name := "<init>", desc := "([C)V" } : Jvm.MethodName) jdk_42_method_3_code (2 : Nat) (Option.none : Option Jvm.ClassFile.FieldType)).before args0 about1 = true := code_word (m := ⟨7, 1⟩) (meth := k7m1) (c := k7c1) (by decide +kernel) rfl rfl rfl (by decide +kernel)
set_option maxRecDepth 65536 in
theorem w_c2 : (Jvm.Cond.code ({ cls := "java/lang/String", name := "<init>", desc := "([CIILjava/lang/Void;)V" } : Jvm.MethodName) jdk_42_method_149_code (6 : Nat) (Option.none : Option Jvm.ClassFile.FieldType)).before args0 about1 = true := code_word (m := ⟨7, 5⟩) (meth := k7m5) (c := k7c5) (by decide +kernel) rfl rfl rfl (by decide +kernel)
set_option maxRecDepth 65536 in
theorem w_c3 : (Jvm.Cond.code ({ cls := "java/lang/Object", name := "<init>", desc := "()V" } : Jvm.MethodName) object_method_1_code (1 : Nat) (Option.none : Option Jvm.ClassFile.FieldType)).before args0 about1 = true := code_word (m := ⟨0, 0⟩) (meth := k0m0) (c := k0c0) (by decide +kernel) rfl rfl rfl (by decide +kernel)
set_option maxRecDepth 65536 in
theorem w_c4 : (Jvm.Cond.code ({ cls := "java/lang/StringUTF16", name := "compress", desc := "([CII)[B" } : Jvm.MethodName) jdk_52_method_16_code (6 : Nat) (Option.some (Jvm.ClassFile.FieldType.array Jvm.ClassFile.FieldType.byte))).before args0 about1 = true := code_word (m := ⟨8, 2⟩) (meth := k8m2) (c := k8c2) (by decide +kernel) rfl rfl rfl (by decide +kernel)
set_option maxRecDepth 65536 in
theorem w_c5 : (Jvm.Cond.code ({ cls := "java/lang/StringUTF16", name := "compress", desc := "([CI[BII)I" } : Jvm.MethodName) jdk_52_method_21_code (7 : Nat) (Option.some Jvm.ClassFile.FieldType.int)).before args0 about1 = true := code_word (m := ⟨8, 3⟩) (meth := k8m3) (c := k8c3) (by decide +kernel) rfl rfl rfl (by decide +kernel)
set_option maxRecDepth 65536 in
theorem w_c6 : (Jvm.Cond.code ({ cls := "java/lang/StringUTF16", name := "coderFromArrayLen", desc := "([BI)B" } : Jvm.MethodName) jdk_52_method_15_code (2 : Nat) (Option.some Jvm.ClassFile.FieldType.byte)).before args0 about1 = true := code_word (m := ⟨8, 1⟩) (meth := k8m1) (c := k8c1) (by decide +kernel) rfl rfl rfl (by decide +kernel)
set_option maxRecDepth 65536 in
theorem w_c7 : (Jvm.Cond.code ({ cls := "java/lang/Math", name := "min", desc := "(II)I" } : Jvm.MethodName) jdk_29_method_69_code (2 : Nat) (Option.some Jvm.ClassFile.FieldType.int)).before args0 about1 = true := code_word (m := ⟨9, 2⟩) (meth := k9m2) (c := k9c2) (by decide +kernel) rfl rfl rfl (by decide +kernel)
set_option maxRecDepth 65536 in
theorem w_c8 : (Jvm.Cond.code ({ cls := "java/lang/Math", name := "max", desc := "(II)I" } : Jvm.MethodName) jdk_29_method_65_code (2 : Nat) (Option.some Jvm.ClassFile.FieldType.int)).before args0 about1 = true := code_word (m := ⟨9, 1⟩) (meth := k9m1) (c := k9c1) (by decide +kernel) rfl rfl rfl (by decide +kernel)
set_option maxRecDepth 65536 in
theorem w_c9 : (Jvm.Cond.code ({ cls := "com/example/capstrike/capstrike/TermText$Written", name := "<init>", desc := "(Ljava/lang/String;II)V" } : Jvm.MethodName) prog_77_method_1_code (4 : Nat) (Option.none : Option Jvm.ClassFile.FieldType)).before args0 about1 = true := code_word (m := ⟨11, 0⟩) (meth := k11m0) (c := k11c0) (by decide +kernel) rfl rfl rfl (by decide +kernel)
set_option maxRecDepth 65536 in
theorem w_c10 : (Jvm.Cond.code ({ cls := "java/lang/Record", name := "<init>", desc := "()V" } : Jvm.MethodName) jdk_30_method_1_code (1 : Nat) (Option.none : Option Jvm.ClassFile.FieldType)).before args0 about1 = true := code_word (m := ⟨10, 0⟩) (meth := k10m0) (c := k10c0) (by decide +kernel) rfl rfl rfl (by decide +kernel)
set_option maxRecDepth 65536 in
theorem w_c11 : (Jvm.Cond.code ({ cls := "com/example/capstrike/capstrike/TermText$Written", name := "toString", desc := "()Ljava/lang/String;" } : Jvm.MethodName) prog_77_method_5_code (1 : Nat) (Option.some (Jvm.ClassFile.FieldType.object "java/lang/String"))).before args0 about1 = true := code_word (m := ⟨11, 1⟩) (meth := k11m1) (c := k11c1) (by decide +kernel) rfl rfl rfl (by decide +kernel)
set_option maxRecDepth 65536 in
theorem w_c12 : (Jvm.Cond.code ({ cls := "java/lang/String", name := "substring", desc := "(II)Ljava/lang/String;" } : Jvm.MethodName) jdk_42_method_92_code (5 : Nat) (Option.some (Jvm.ClassFile.FieldType.object "java/lang/String"))).before args0 about1 = true := code_word (m := ⟨7, 4⟩) (meth := k7m4) (c := k7c4) (by decide +kernel) rfl rfl rfl (by decide +kernel)
set_option maxRecDepth 65536 in
theorem w_c13 : (Jvm.Cond.code ({ cls := "java/lang/String", name := "length", desc := "()I" } : Jvm.MethodName) jdk_42_method_54_code (1 : Nat) (Option.some Jvm.ClassFile.FieldType.int)).before args0 about1 = true := code_word (m := ⟨7, 2⟩) (meth := k7m2) (c := k7c2) (by decide +kernel) rfl rfl rfl (by decide +kernel)
set_option maxRecDepth 65536 in
theorem w_c14 : (Jvm.Cond.code ({ cls := "java/lang/String", name := "coder", desc := "()B" } : Jvm.MethodName) jdk_42_method_152_code (1 : Nat) (Option.some Jvm.ClassFile.FieldType.byte)).before args0 about1 = true := code_word (m := ⟨7, 7⟩) (meth := k7m7) (c := k7c7) (by decide +kernel) rfl rfl rfl (by decide +kernel)
set_option maxRecDepth 65536 in
theorem w_c15 : (Jvm.Cond.code ({ cls := "java/lang/String", name := "checkBoundsBeginEnd", desc := "(III)V" } : Jvm.MethodName) jdk_42_method_158_code (3 : Nat) (Option.none : Option Jvm.ClassFile.FieldType)).before args0 about1 = true := code_word (m := ⟨7, 10⟩) (meth := k7m10) (c := k7c10) (by decide +kernel) rfl rfl rfl (by decide +kernel)
set_option maxRecDepth 65536 in
theorem w_c16 : (Jvm.Cond.code ({ cls := "jdk/internal/util/Preconditions", name := "checkFromToIndex", desc := "(IIILjava/util/function/BiFunction;)I" } : Jvm.MethodName) jdk_41_method_12_code (4 : Nat) (Option.some Jvm.ClassFile.FieldType.int)).before args0 about1 = true := code_word (m := ⟨12, 2⟩) (meth := k12m2) (c := k12c2) (by decide +kernel) rfl rfl rfl (by decide +kernel)
set_option maxRecDepth 65536 in
theorem w_c17 : (Jvm.Cond.code ({ cls := "java/lang/String", name := "isLatin1", desc := "()Z" } : Jvm.MethodName) jdk_42_method_154_code (1 : Nat) (Option.some Jvm.ClassFile.FieldType.boolean)).before args0 about1 = true := code_word (m := ⟨7, 8⟩) (meth := k7m8) (c := k7c8) (by decide +kernel) rfl rfl rfl (by decide +kernel)
set_option maxRecDepth 65536 in
theorem w_c18 : (Jvm.Cond.code ({ cls := "java/lang/StringLatin1", name := "newString", desc := "([BII)Ljava/lang/String;" } : Jvm.MethodName) jdk_43_method_47_code (3 : Nat) (Option.some (Jvm.ClassFile.FieldType.object "java/lang/String"))).before args0 about1 = true := code_word (m := ⟨13, 2⟩) (meth := k13m2) (c := k13c2) (by decide +kernel) rfl rfl rfl (by decide +kernel)
set_option maxRecDepth 65536 in
theorem w_c19 : (Jvm.Cond.code ({ cls := "java/util/Arrays", name := "copyOfRange", desc := "([BII)[B" } : Jvm.MethodName) jdk_65_method_132_code (3 : Nat) (Option.some (Jvm.ClassFile.FieldType.array Jvm.ClassFile.FieldType.byte))).before args0 about1 = true := code_word (m := ⟨14, 2⟩) (meth := k14m2) (c := k14c2) (by decide +kernel) rfl rfl rfl (by decide +kernel)
set_option maxRecDepth 65536 in
theorem w_c20 : (Jvm.Cond.code ({ cls := "java/util/Arrays", name := "copyOfRangeByte", desc := "([BII)[B" } : Jvm.MethodName) jdk_65_method_133_code (5 : Nat) (Option.some (Jvm.ClassFile.FieldType.array Jvm.ClassFile.FieldType.byte))).before args0 about1 = true := code_word (m := ⟨14, 3⟩) (meth := k14m3) (c := k14c3) (by decide +kernel) rfl rfl rfl (by decide +kernel)
set_option maxRecDepth 65536 in
theorem w_c21 : (Jvm.Cond.code ({ cls := "java/util/Arrays", name := "checkLength", desc := "(II)V" } : Jvm.MethodName) jdk_65_method_131_code (2 : Nat) (Option.none : Option Jvm.ClassFile.FieldType)).before args0 about1 = true := code_word (m := ⟨14, 1⟩) (meth := k14m1) (c := k14c1) (by decide +kernel) rfl rfl rfl (by decide +kernel)
set_option maxRecDepth 65536 in
theorem w_c22 : (Jvm.Cond.code ({ cls := "java/lang/String", name := "<init>", desc := "([BB)V" } : Jvm.MethodName) jdk_42_method_151_code (3 : Nat) (Option.none : Option Jvm.ClassFile.FieldType)).before args0 about1 = true := code_word (m := ⟨7, 6⟩) (meth := k7m6) (c := k7c6) (by decide +kernel) rfl rfl rfl (by decide +kernel)
set_option maxRecDepth 65536 in
theorem w_c23 : (Jvm.Cond.code ({ cls := "com/example/capstrike/capstrike/TermTextToStringPinLaw", name := "same", desc := "(Ljava/lang/String;I[CII)Z" } : Jvm.MethodName) method_2_code (5 : Nat) (Option.some Jvm.ClassFile.FieldType.boolean)).before args0 about1 = true := code_word (m := ⟨1, 1⟩) (meth := k1m1) (c := k1c1) (by decide +kernel) rfl rfl rfl (by decide +kernel)
set_option maxRecDepth 65536 in
theorem w_c24 : (Jvm.Cond.code ({ cls := "java/lang/String", name := "charAt", desc := "(I)C" } : Jvm.MethodName) jdk_42_method_56_code (2 : Nat) (Option.some Jvm.ClassFile.FieldType.char)).before args0 about1 = true := code_word (m := ⟨7, 3⟩) (meth := k7m3) (c := k7c3) (by decide +kernel) rfl rfl rfl (by decide +kernel)
set_option maxRecDepth 65536 in
theorem w_c25 : (Jvm.Cond.code ({ cls := "java/lang/StringLatin1", name := "charAt", desc := "([BI)C" } : Jvm.MethodName) jdk_43_method_2_code (2 : Nat) (Option.some Jvm.ClassFile.FieldType.char)).before args0 about1 = true := code_word (m := ⟨13, 1⟩) (meth := k13m1) (c := k13c1) (by decide +kernel) rfl rfl rfl (by decide +kernel)
set_option maxRecDepth 65536 in
theorem w_c26 : (Jvm.Cond.code ({ cls := "java/lang/String", name := "checkIndex", desc := "(II)V" } : Jvm.MethodName) jdk_42_method_155_code (2 : Nat) (Option.none : Option Jvm.ClassFile.FieldType)).before args0 about1 = true := code_word (m := ⟨7, 9⟩) (meth := k7m9) (c := k7c9) (by decide +kernel) rfl rfl rfl (by decide +kernel)
set_option maxRecDepth 65536 in
theorem w_c27 : (Jvm.Cond.code ({ cls := "jdk/internal/util/Preconditions", name := "checkIndex", desc := "(IILjava/util/function/BiFunction;)I" } : Jvm.MethodName) jdk_41_method_11_code (3 : Nat) (Option.some Jvm.ClassFile.FieldType.int)).before args0 about1 = true := code_word (m := ⟨12, 1⟩) (meth := k12m1) (c := k12c1) (by decide +kernel) rfl rfl rfl (by decide +kernel)
def codes1 : List Jvm.Cond := [Jvm.Cond.code x code maxLocals ret, Jvm.Cond.code ({ cls := "java/lang/String", name := "<init>", desc := "([C)V" } : Jvm.MethodName) jdk_42_method_3_code (2 : Nat) (Option.none : Option Jvm.ClassFile.FieldType), Jvm.Cond.code ({ cls := "java/lang/String", name := "<init>", desc := "([CIILjava/lang/Void;)V" } : Jvm.MethodName) jdk_42_method_149_code (6 : Nat) (Option.none : Option Jvm.ClassFile.FieldType), Jvm.Cond.code ({ cls := "java/lang/Object", name := "<init>", desc := "()V" } : Jvm.MethodName) object_method_1_code (1 : Nat) (Option.none : Option Jvm.ClassFile.FieldType), Jvm.Cond.code ({ cls := "java/lang/StringUTF16", name := "compress", desc := "([CII)[B" } : Jvm.MethodName) jdk_52_method_16_code (6 : Nat) (Option.some (Jvm.ClassFile.FieldType.array Jvm.ClassFile.FieldType.byte)), Jvm.Cond.code ({ cls := "java/lang/StringUTF16", name := "compress", desc := "([CI[BII)I" } : Jvm.MethodName) jdk_52_method_21_code (7 : Nat) (Option.some Jvm.ClassFile.FieldType.int), Jvm.Cond.code ({ cls := "java/lang/StringUTF16", name := "coderFromArrayLen", desc := "([BI)B" } : Jvm.MethodName) jdk_52_method_15_code (2 : Nat) (Option.some Jvm.ClassFile.FieldType.byte), Jvm.Cond.code ({ cls := "java/lang/Math", name := "min", desc := "(II)I" } : Jvm.MethodName) jdk_29_method_69_code (2 : Nat) (Option.some Jvm.ClassFile.FieldType.int), Jvm.Cond.code ({ cls := "java/lang/Math", name := "max", desc := "(II)I" } : Jvm.MethodName) jdk_29_method_65_code (2 : Nat) (Option.some Jvm.ClassFile.FieldType.int), Jvm.Cond.code ({ cls := "com/example/capstrike/capstrike/TermText$Written", name := "<init>", desc := "(Ljava/lang/String;II)V" } : Jvm.MethodName) prog_77_method_1_code (4 : Nat) (Option.none : Option Jvm.ClassFile.FieldType), Jvm.Cond.code ({ cls := "java/lang/Record", name := "<init>", desc := "()V" } : Jvm.MethodName) jdk_30_method_1_code (1 : Nat) (Option.none : Option Jvm.ClassFile.FieldType), Jvm.Cond.code ({ cls := "com/example/capstrike/capstrike/TermText$Written", name := "toString", desc := "()Ljava/lang/String;" } : Jvm.MethodName) prog_77_method_5_code (1 : Nat) (Option.some (Jvm.ClassFile.FieldType.object "java/lang/String")), Jvm.Cond.code ({ cls := "java/lang/String", name := "substring", desc := "(II)Ljava/lang/String;" } : Jvm.MethodName) jdk_42_method_92_code (5 : Nat) (Option.some (Jvm.ClassFile.FieldType.object "java/lang/String")), Jvm.Cond.code ({ cls := "java/lang/String", name := "length", desc := "()I" } : Jvm.MethodName) jdk_42_method_54_code (1 : Nat) (Option.some Jvm.ClassFile.FieldType.int), Jvm.Cond.code ({ cls := "java/lang/String", name := "coder", desc := "()B" } : Jvm.MethodName) jdk_42_method_152_code (1 : Nat) (Option.some Jvm.ClassFile.FieldType.byte), Jvm.Cond.code ({ cls := "java/lang/String", name := "checkBoundsBeginEnd", desc := "(III)V" } : Jvm.MethodName) jdk_42_method_158_code (3 : Nat) (Option.none : Option Jvm.ClassFile.FieldType), Jvm.Cond.code ({ cls := "jdk/internal/util/Preconditions", name := "checkFromToIndex", desc := "(IIILjava/util/function/BiFunction;)I" } : Jvm.MethodName) jdk_41_method_12_code (4 : Nat) (Option.some Jvm.ClassFile.FieldType.int), Jvm.Cond.code ({ cls := "java/lang/String", name := "isLatin1", desc := "()Z" } : Jvm.MethodName) jdk_42_method_154_code (1 : Nat) (Option.some Jvm.ClassFile.FieldType.boolean), Jvm.Cond.code ({ cls := "java/lang/StringLatin1", name := "newString", desc := "([BII)Ljava/lang/String;" } : Jvm.MethodName) jdk_43_method_47_code (3 : Nat) (Option.some (Jvm.ClassFile.FieldType.object "java/lang/String")), Jvm.Cond.code ({ cls := "java/util/Arrays", name := "copyOfRange", desc := "([BII)[B" } : Jvm.MethodName) jdk_65_method_132_code (3 : Nat) (Option.some (Jvm.ClassFile.FieldType.array Jvm.ClassFile.FieldType.byte)), Jvm.Cond.code ({ cls := "java/util/Arrays", name := "copyOfRangeByte", desc := "([BII)[B" } : Jvm.MethodName) jdk_65_method_133_code (5 : Nat) (Option.some (Jvm.ClassFile.FieldType.array Jvm.ClassFile.FieldType.byte)), Jvm.Cond.code ({ cls := "java/util/Arrays", name := "checkLength", desc := "(II)V" } : Jvm.MethodName) jdk_65_method_131_code (2 : Nat) (Option.none : Option Jvm.ClassFile.FieldType), Jvm.Cond.code ({ cls := "java/lang/String", name := "<init>", desc := "([BB)V" } : Jvm.MethodName) jdk_42_method_151_code (3 : Nat) (Option.none : Option Jvm.ClassFile.FieldType), Jvm.Cond.code ({ cls := "com/example/capstrike/capstrike/TermTextToStringPinLaw", name := "same", desc := "(Ljava/lang/String;I[CII)Z" } : Jvm.MethodName) method_2_code (5 : Nat) (Option.some Jvm.ClassFile.FieldType.boolean), Jvm.Cond.code ({ cls := "java/lang/String", name := "charAt", desc := "(I)C" } : Jvm.MethodName) jdk_42_method_56_code (2 : Nat) (Option.some Jvm.ClassFile.FieldType.char), Jvm.Cond.code ({ cls := "java/lang/StringLatin1", name := "charAt", desc := "([BI)C" } : Jvm.MethodName) jdk_43_method_2_code (2 : Nat) (Option.some Jvm.ClassFile.FieldType.char), Jvm.Cond.code ({ cls := "java/lang/String", name := "checkIndex", desc := "(II)V" } : Jvm.MethodName) jdk_42_method_155_code (2 : Nat) (Option.none : Option Jvm.ClassFile.FieldType), Jvm.Cond.code ({ cls := "jdk/internal/util/Preconditions", name := "checkIndex", desc := "(IILjava/util/function/BiFunction;)I" } : Jvm.MethodName) jdk_41_method_11_code (3 : Nat) (Option.some Jvm.ClassFile.FieldType.int)]
set_option maxRecDepth 65536 in
theorem codes_eq : words1.filter isCode = codes1 := rfl
theorem w_codes : ∀ c ∈ words1.filter isCode, c.before args0 about1 = true := by
  rw [codes_eq]
  intro c hc
  simp only [codes1, List.mem_cons, List.not_mem_nil, or_false] at hc
  rcases hc with rfl | rfl | rfl | rfl | rfl | rfl | rfl | rfl | rfl | rfl | rfl | rfl | rfl | rfl | rfl | rfl | rfl | rfl | rfl | rfl | rfl | rfl | rfl | rfl | rfl | rfl | rfl | rfl
  · exact w_c0
  · exact w_c1
  · exact w_c2
  · exact w_c3
  · exact w_c4
  · exact w_c5
  · exact w_c6
  · exact w_c7
  · exact w_c8
  · exact w_c9
  · exact w_c10
  · exact w_c11
  · exact w_c12
  · exact w_c13
  · exact w_c14
  · exact w_c15
  · exact w_c16
  · exact w_c17
  · exact w_c18
  · exact w_c19
  · exact w_c20
  · exact w_c21
  · exact w_c22
  · exact w_c23
  · exact w_c24
  · exact w_c25
  · exact w_c26
  · exact w_c27
set_option maxRecDepth 65536 in
theorem w_t1 : (words1.take 24).all (fun c => isCode c || c.before args0 about1) = true := by decide +kernel
set_option maxRecDepth 65536 in
theorem w_t2 : ((words1.drop 24).take 24).all (fun c => isCode c || c.before args0 about1) = true := by decide +kernel
set_option maxRecDepth 65536 in
theorem w_t3 : (((words1.drop 24).drop 24).take 24).all (fun c => isCode c || c.before args0 about1) = true := by decide +kernel
set_option maxRecDepth 65536 in
theorem w_t4 : ((((words1.drop 24).drop 24).drop 24).take 24).all (fun c => isCode c || c.before args0 about1) = true := by decide +kernel
set_option maxRecDepth 65536 in
theorem w_t5 : (((((words1.drop 24).drop 24).drop 24).drop 24).take 24).all (fun c => isCode c || c.before args0 about1) = true := by decide +kernel
set_option maxRecDepth 65536 in
theorem w_t6 : (((((words1.drop 24).drop 24).drop 24).drop 24).drop 24).all (fun c => isCode c || c.before args0 about1) = true := by decide +kernel
theorem w_tables : (allAtoms (Jvm.Cond.code x code maxLocals ret :: tables_1)).before args0 about1 = true := by
  rw [allAtoms_all]
  show words1.all (fun c => c.before args0 about1) = true
  refine all_split ?_ w_codes
  rw [← List.take_append_drop 24 words1, List.all_append, w_t1, ← List.take_append_drop 24 (words1.drop 24), List.all_append, w_t2, ← List.take_append_drop 24 ((words1.drop 24).drop 24), List.all_append, w_t3, ← List.take_append_drop 24 (((words1.drop 24).drop 24).drop 24), List.all_append, w_t4, ← List.take_append_drop 24 ((((words1.drop 24).drop 24).drop 24).drop 24), List.all_append, w_t5, w_t6]
  rfl
set_option maxRecDepth 65536 in
theorem w_rest : rest_1_c.before args0 about1 = true := by decide +kernel
set_option maxRecDepth 65536 in
theorem w_case : (Jvm.Cond.and given_1 narrow_1).before args0 about1 = true := by decide +kernel
set_option maxRecDepth 65536 in
theorem w_consts : constsHeld consts_1 about1 := Jvm.Lit.constsHeldB_iff.mp (by decide +kernel)
theorem w_applies : (headSpec (Jvm.Cond.code x code maxLocals ret :: tables_1) room_1).applies x e0.platform about1 = true :=
  (Spec.applies_iff w_frames).mpr ⟨w_running, w_runnable, w_alone, w_named, w_hears, w_ripe, w_room, w_tables⟩
theorem atStart : AtStart classFile x code maxLocals ret World_1 tables_1 room_1 Calls_1 rest_1 Pre_1 launch0 p0 e0 about1 theMethod args0 below0 :=
  ⟨lists_1, trivial, launch0.admits_env _ _ _, launch0.least_env, fairChoices_fair.cas, fairChoices_fair.clock, w_frames, w_args, w_heap, w_applies, ⟨w_consts, trivial⟩, w_rest, w_case⟩
end start1
theorem witness_1 : WitnessClaimed_1 := ⟨start1.p0, start1.e0, start1.about1, start1.theMethod, start1.args0, start1.below0, start1.atStart⟩
end Jvm.Pilot.@@N@@
