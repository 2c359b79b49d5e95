import JvmDerived
import JvmDerived.Pilot.@@N@@Statement
import JvmDerived.Pilot.@@N@@Code
set_option linter.unusedVariables false
set_option linter.unusedSimpArgs false

/- laws to paste: Road.backV, Road.empW, Road.eqW, Road.codOf (cut by pick.py; bodies as the Statement names them) -/
namespace Jvm.Pilot.@@N@@
namespace StrChars
open Jvm Sem ClassFile Op Lib Jvm.Stand Jvm.Free.XT Jvm.Free.ALB Jvm.Free.JM Jvm.Free
open Jvm.Lib.Cold (StaticIs)
/-- a char array whose places are chars -/
def Ch (a : Addr) (A : Cell) (U : State) : Prop := Arr .char a A U ∧ Typed .char A
theorem Ch.mv {a : Addr} {A : Cell} {U U' : State} (h : Ch a A U) (hal : U.vm.Alike U'.vm) (hh : U'.heap = U.heap) : Ch a A U' := ⟨h.1.mv hal hh, h.2⟩
theorem Ch.keep {a : Addr} {A : Cell} {U U' : State} (h : Ch a A U) (hal : U.vm.Alike U'.vm) (hk : U'.heap[a]? = some A) : Ch a A U' := ⟨h.1.keep hal hk, h.2⟩
/-- what place i of a char[]'s cell holds -/
def cv (A : Cell) (i : Nat) : Int32 := match A.slots[i]? with | some (.int x) => x | _ => 0
theorem Ch.get {a : Addr} {A : Cell} {U : State} (h : Ch a A U) {i : Nat} (hi : i < A.slots.size) : A.slots[i]? = some (.int (cv A i)) := by
  have e := Array.getElem?_eq_getElem hi
  have f := h.2 i _ e
  unfold cv; rw [e]
  generalize A.slots[i] = v at f
  cases v <;> simp [fits] at f ⊢
/-- the byte that i2b leaves of a char -/
def lo8 (x : Int32) : Int32 := x.toInt8.toInt32
theorem fits_lo8 (y : Int32) : fits .byte (.int (lo8 y)) = true := by
  have h1 := y.toInt8.le_toInt
  have h2 := y.toInt8.toInt_lt
  simp only [lo8, fits, Bool.and_eq_true, decide_eq_true_eq, Int32.le_iff_toInt_le, Int8.toInt_toInt32, show (-128 : Int32).toInt = -128 from by decide, show (127 : Int32).toInt = 127 from by decide]
  omega
/-- A' is A but that each place j of lo .. hi - 1 holds f j -/
def Laid (A A' : Cell) (lo hi : Nat) (f : Nat → Value) : Prop := A'.cls = A.cls ∧ A'.vm = A.vm ∧ A'.slots.size = A.slots.size ∧ ∀ i, A'.slots[i]? = if lo ≤ i ∧ i < hi then some (f i) else A.slots[i]?
theorem Laid.zero (A : Cell) (lo : Nat) (f : Nat → Value) : Laid A A lo (lo + 0) f := ⟨rfl, rfl, rfl, fun i => by rw [if_neg (by omega)]⟩
theorem Laid.step {A Ak : Cell} {lo k : Nat} {f : Nat → Value} {v : Value} (h : Laid A Ak lo k f) (hlo : lo ≤ k) (hk : k < Ak.slots.size) (hv : v = f k) : Laid A (Ak.setSlot k v) lo (k + 1) f := by
  refine ⟨h.1, h.2.1, by simpa [Cell.setSlot] using h.2.2.1, fun i => ?_⟩
  by_cases e : k = i
  · subst e; rw [Cell.slots_setSlot_self v hk, if_pos (by omega), hv]
  · rw [Cell.slots_setSlot_ne v e, h.2.2.2 i]
    by_cases q : lo ≤ i ∧ i < k
    · rw [if_pos q, if_pos (by omega)]
    · rw [if_neg q, if_neg (by omega)]
def U16 : String := "java/lang/StringUTF16"
namespace Cmp5
def yN : MethodName := ⟨"java/lang/StringUTF16", "compress", "([CI[BII)I"⟩
abbrev yB : ByteArray := jdk_52_method_21_code
theorem d0 : decode yB 0 = .ok (.iconst 0, 1) := by decide +kernel
theorem d1 : decode yB 1 = .ok (.istore 5, 2) := by decide +kernel
theorem d3 : decode yB 3 = .ok (.iload 5, 2) := by decide +kernel
theorem d5 : decode yB 5 = .ok (.iload 4, 2) := by decide +kernel
theorem d7 : decode yB 7 = .ok (.if_icmp (.ge) 37, 3) := by decide +kernel
theorem d10 : decode yB 10 = .ok (.aload_n 0, 1) := by decide +kernel
theorem d11 : decode yB 11 = .ok (.iload_n 1, 1) := by decide +kernel
theorem d12 : decode yB 12 = .ok (.caload, 1) := by decide +kernel
theorem d13 : decode yB 13 = .ok (.istore 6, 2) := by decide +kernel
theorem d15 : decode yB 15 = .ok (.iload 6, 2) := by decide +kernel
theorem d17 : decode yB 17 = .ok (.sipush 255, 3) := by decide +kernel
theorem d20 : decode yB 20 = .ok (.if_icmp (.le) 6, 3) := by decide +kernel
theorem d26 : decode yB 26 = .ok (.aload_n 2, 1) := by decide +kernel
theorem d27 : decode yB 27 = .ok (.iload_n 3, 1) := by decide +kernel
theorem d28 : decode yB 28 = .ok (.iload 6, 2) := by decide +kernel
theorem d30 : decode yB 30 = .ok (.i2b, 1) := by decide +kernel
theorem d31 : decode yB 31 = .ok (.bastore, 1) := by decide +kernel
theorem d32 : decode yB 32 = .ok (.iinc 1 1, 3) := by decide +kernel
theorem d35 : decode yB 35 = .ok (.iinc 3 1, 3) := by decide +kernel
theorem d38 : decode yB 38 = .ok (.iinc 5 1, 3) := by decide +kernel
theorem d41 : decode yB 41 = .ok (.goto (-38), 3) := by decide +kernel
theorem d44 : decode yB 44 = .ok (.iload 4, 2) := by decide +kernel
theorem d46 : decode yB 46 = .ok (.ireturn, 1) := by decide +kernel
def site : List Cond := []
def tab : Cond := tabOf yN yB 7 (some .int) site
def P (b : Addr) (A : Cell) (d : Addr) (B : Cell) (o q len : Nat) (args : Array Value) (s : State) : Prop := args = #[.ref b, .int (Int32.ofNat o), .ref d, .int (Int32.ofNat q), .int (Int32.ofNat len)] ∧ Ch b A s ∧ Arr .byte d B s ∧ b ≠ d ∧ o + len ≤ A.slots.size ∧ q + len ≤ B.slots.size ∧ ∀ i, i < len → ¬ 255 < cv A (o + i)
def E (b : Addr) (A : Cell) (d : Addr) (B : Cell) (o q len : Nat) (r : Option Value) (s u : State) : Prop := r = some (.int (Int32.ofNat len)) ∧ ∃ B', Put d B' s u ∧ Laid B B' q (q + len) (fun j => Value.int (lo8 (cv A (o + (j - q)))))
/-- no char of the range above 255: len; the places written hold each char's low byte -/
theorem law (l : Launch) (b : Addr) (A : Cell) (d : Addr) (B : Cell) (o q len : Nat) : Law l yN 5 5 0 0 yB 7 (some .int) site (P b A d B o q len) (E b A d B o q len) (copyLocs d q len) 0 0 := by
  refine Law.of_walk (plainFor_of_name (by decide +kernel)) (by decide +kernel) (by decide +kernel) (by decide) (fun _ _ h => by rw [h.1]; rfl) (fun _ U U' hal hh h => ⟨h.1, h.2.1.mv hal hh, h.2.2.1.mv hal hh, h.2.2.2⟩) (fun r U U' V V' h1 hal h2 h => ⟨h.1, h.2.elim fun B' q => ⟨B', q.1.mv h1 h2, q.2⟩⟩) ?_
  intro p e s m args below meth c s₁ X0 hexec hbytes hml hret hlk hnm hown hh0 W hP
  obtain ⟨rfl, hA, hB, hne, l1, l2, hp⟩ := hP
  have c1 : Steps p.tables e below (s₁.setTop (entryFrame m #[.ref b, .int (Int32.ofNat o), .ref d, .int (Int32.ofNat q), .int (Int32.ofNat len)] 7)) (s₁.setTop (mkF m 0 #[.val (.ref b), .val (.int (Int32.ofNat o)), .val (.ref d), .val (.int (Int32.ofNat q)), .val (.int (Int32.ofNat len)), .unset, .unset] [])) := entry rfl
  have hA0 := hA.1.mv X0.warmed.alike hh0
  have hB0 := hB.mv X0.warmed.alike hh0
  have a31 := hA.1.2.2.2
  have c2 : Steps p.tables e below (s₁.setTop (entryFrame m #[.ref b, .int (Int32.ofNat o), .ref d, .int (Int32.ofNat q), .int (Int32.ofNat len)] 7)) (s₁.setTop (mkF m 3 #[.val (.ref b), .val (.int (Int32.ofNat o)), .val (.ref d), .val (.int (Int32.ofNat q)), .val (.int (Int32.ofNat len)), .val (.int 0), .unset] [])) := c1.trans (by
    refine iconstV X0.here hexec rfl 0 (hb hbytes d0) (by decide) ?_
    refine XS.istore X0.here hexec rfl (hb hbytes d1) rfl rfl ?_
    exact Steps.refl _)
  have loop : ∀ (r i : Nat), i + r = len → ∀ (z : Slot), (z = .unset ∨ ∃ w, z = .val w ∧ w.category = 1) → ∀ (Tl : State) (Bk : Cell), Stand p l e { frames := 0, locals := 0, cells := 0, slots := 0 } s m #[.ref b, .int (Int32.ofNat o), .ref d, .int (Int32.ofNat q), .int (Int32.ofNat len)] below meth c Tl ([] ++ copyLocs d q i) 0 0 → Put d Bk s₁ Tl → Laid B Bk q (q + i) (fun j => Value.int (lo8 (cv A (o + (j - q))))) →
      Steps p.tables e below (s₁.setTop (entryFrame m #[.ref b, .int (Int32.ofNat o), .ref d, .int (Int32.ofNat q), .int (Int32.ofNat len)] 7)) (Tl.setTop (mkF m 3 #[.val (.ref b), .val (.int (Int32.ofNat (o + i))), .val (.ref d), .val (.int (Int32.ofNat (q + i))), .val (.int (Int32.ofNat len)), .val (.int (Int32.ofNat i)), z] [])) → ∃ (T' : State) (B' : Cell) (z' : Slot), Stand p l e { frames := 0, locals := 0, cells := 0, slots := 0 } s m #[.ref b, .int (Int32.ofNat o), .ref d, .int (Int32.ofNat q), .int (Int32.ofNat len)] below meth c T' ([] ++ copyLocs d q len) 0 0 ∧ Put d B' s₁ T' ∧ Laid B B' q (q + len) (fun j => Value.int (lo8 (cv A (o + (j - q))))) ∧
      Steps p.tables e below (s₁.setTop (entryFrame m #[.ref b, .int (Int32.ofNat o), .ref d, .int (Int32.ofNat q), .int (Int32.ofNat len)] 7)) (T'.setTop (mkF m 3 #[.val (.ref b), .val (.int (Int32.ofNat (o + len))), .val (.ref d), .val (.int (Int32.ofNat (q + len))), .val (.int (Int32.ofNat len)), .val (.int (Int32.ofNat len)), z'] [])) := by
    intro r
    induction r with
    | zero =>
      intro i hi z hz Tl Bk Xl pl fl cl
      have hil : i = len := by omega
      rw [hil] at Xl fl cl
      exact ⟨Tl, Bk, z, Xl, pl, fl, cl⟩
    | succ r ih =>
      intro i hi z hz Tl Bk Xl pl fl cl
      have all := X0.warmed.alike.symm.trans Xl.warmed.alike
      have hAl := hA0.keep all (pl.other hne hA0.1)
      have hBk := hB0.like all pl.1 fl.1 fl.2.1 fl.2.2.1
      have hlt : q + i < Bk.slots.size := by rw [fl.2.2.1]; omega
      have c3 : Steps p.tables e below (s₁.setTop (entryFrame m #[.ref b, .int (Int32.ofNat o), .ref d, .int (Int32.ofNat q), .int (Int32.ofNat len)] 7)) (Tl.setTop (mkF m 12 #[.val (.ref b), .val (.int (Int32.ofNat (o + i))), .val (.ref d), .val (.int (Int32.ofNat (q + i))), .val (.int (Int32.ofNat len)), .val (.int (Int32.ofNat i)), z] [.int (Int32.ofNat (o + i)), .ref b])) := cl.trans (by
        refine XS.iload Xl.here hexec rfl (hb hbytes d3) rfl ?_
        refine XS.iload Xl.here hexec rfl (hb hbytes d5) rfl ?_
        refine XS.icmpNo Xl.here hexec rfl (hb hbytes d7) rfl (ii_ge_f (lt32 (by omega) (by omega))) ?_
        refine XS.aloadN Xl.here hexec rfl (hb hbytes d10) rfl rfl ?_
        refine XS.iloadN Xl.here hexec rfl (hb hbytes d11) rfl ?_
        exact Steps.refl _)
      have c4 : Steps p.tables e below (s₁.setTop (entryFrame m #[.ref b, .int (Int32.ofNat o), .ref d, .int (Int32.ofNat q), .int (Int32.ofNat len)] 7)) (Tl.setTop (mkF m 13 #[.val (.ref b), .val (.int (Int32.ofNat (o + i))), .val (.ref d), .val (.int (Int32.ofNat (q + i))), .val (.int (Int32.ofNat len)), .val (.int (Int32.ofNat i)), z] [.int (cv A (o + i))])) := c3.trans (by
        refine Xl.aget hexec hAl rfl (hA.get (i := o + i) (by omega)) rfl rfl (hb hbytes d12) ?_
        exact Steps.refl _)
      have c5 : Steps p.tables e below (s₁.setTop (entryFrame m #[.ref b, .int (Int32.ofNat o), .ref d, .int (Int32.ofNat q), .int (Int32.ofNat len)] 7)) (Tl.setTop (mkF m 15 #[.val (.ref b), .val (.int (Int32.ofNat (o + i))), .val (.ref d), .val (.int (Int32.ofNat (q + i))), .val (.int (Int32.ofNat len)), .val (.int (Int32.ofNat i)), .val (.int (cv A (o + i)))] [])) := c4.trans (by
        refine XS.istoreS Xl.here hexec rfl (hb hbytes d13) rfl rfl hz ?_
        exact Steps.refl _)
      have c6 : Steps p.tables e below (s₁.setTop (entryFrame m #[.ref b, .int (Int32.ofNat o), .ref d, .int (Int32.ofNat q), .int (Int32.ofNat len)] 7)) (Tl.setTop (mkF m 31 #[.val (.ref b), .val (.int (Int32.ofNat (o + i))), .val (.ref d), .val (.int (Int32.ofNat (q + i))), .val (.int (Int32.ofNat len)), .val (.int (Int32.ofNat i)), .val (.int (cv A (o + i)))] [.int (lo8 (cv A (o + i))), .int (Int32.ofNat (q + i)), .ref d])) := c5.trans (by
        refine XS.iload Xl.here hexec rfl (hb hbytes d15) rfl ?_
        refine sipushV Xl.here hexec rfl 255 (hb hbytes d17) (by decide) ?_
        refine XS.icmpYes Xl.here hexec rfl (pc0 := 20) rfl (hb hbytes d20) rfl (ii_le_t (hp i (by omega))) (by decide) rfl ?_
        refine XS.aloadN Xl.here hexec rfl (hb hbytes d26) rfl rfl ?_
        refine XS.iloadN Xl.here hexec rfl (hb hbytes d27) rfl ?_
        refine XS.iload Xl.here hexec rfl (hb hbytes d28) rfl ?_
        refine i2b Xl.here hexec rfl (hb hbytes d30) rfl ?_
        exact Steps.refl _)
      obtain ⟨T7, X7, p7, st7⟩ := Xl.aput hexec hBk rfl hlt rfl (fits_lo8 (cv A (o + i))) (g := (mkF m 31 #[.val (.ref b), .val (.int (Int32.ofNat (o + i))), .val (.ref d), .val (.int (Int32.ofNat (q + i))), .val (.int (Int32.ofNat len)), .val (.int (Int32.ofNat i)), .val (.int (cv A (o + i)))] [.int (lo8 (cv A (o + i))), .int (Int32.ofNat (q + i)), .ref d])) rfl (rest := []) rfl (hb hbytes d31)
      have c8 : Steps p.tables e below (s₁.setTop (entryFrame m #[.ref b, .int (Int32.ofNat o), .ref d, .int (Int32.ofNat q), .int (Int32.ofNat len)] 7)) (T7.setTop (mkF m 32 #[.val (.ref b), .val (.int (Int32.ofNat (o + i))), .val (.ref d), .val (.int (Int32.ofNat (q + i))), .val (.int (Int32.ofNat len)), .val (.int (Int32.ofNat i)), .val (.int (cv A (o + i)))] [])) := c6.trans (st7 _ (Steps.refl _))
      have c9 : Steps p.tables e below (s₁.setTop (entryFrame m #[.ref b, .int (Int32.ofNat o), .ref d, .int (Int32.ofNat q), .int (Int32.ofNat len)] 7)) (T7.setTop (mkF m 3 #[.val (.ref b), .val (.int (Int32.ofNat (o + i) + 1)), .val (.ref d), .val (.int (Int32.ofNat (q + i) + 1)), .val (.int (Int32.ofNat len)), .val (.int (Int32.ofNat i + 1)), .val (.int (cv A (o + i)))] [])) := c8.trans (by
        refine iincV X7.here hexec rfl 1 (hb hbytes d32) (by decide) rfl rfl ?_
        refine iincV X7.here hexec rfl 1 (hb hbytes d35) (by decide) rfl rfl ?_
        refine iincV X7.here hexec rfl 1 (hb hbytes d38) (by decide) rfl rfl ?_
        refine XS.goto X7.here hexec rfl (pc0 := 41) rfl (hb hbytes d41) (by decide) rfl ?_
        exact Steps.refl _)
      have c10 : Steps p.tables e below (s₁.setTop (entryFrame m #[.ref b, .int (Int32.ofNat o), .ref d, .int (Int32.ofNat q), .int (Int32.ofNat len)] 7)) (T7.setTop (mkF m 3 #[.val (.ref b), .val (.int (Int32.ofNat (o + (i + 1)))), .val (.ref d), .val (.int (Int32.ofNat (q + (i + 1)))), .val (.int (Int32.ofNat len)), .val (.int (Int32.ofNat (i + 1))), .val (.int (cv A (o + i)))] [])) := by
        have := c9
        rw [succ32, succ32, succ32] at this
        exact this
      exact ih (i + 1) (by omega) _ (Or.inr ⟨_, rfl, rfl⟩) T7 _ (by rw [copyLocs_step, ← List.append_assoc]; exact X7) (pl.trans p7) (fl.step (by omega) hlt (by simp)) c10
  obtain ⟨T9, B9, z9, X9, p9, f9, g9⟩ := loop len 0 (by omega) .unset (Or.inl rfl) s₁ B (by simpa [copyLocs] using X0) ⟨hB0.1, fun _ _ => rfl, rfl⟩ (Laid.zero _ _ _) c2
  have c11 : Steps p.tables e below (s₁.setTop (entryFrame m #[.ref b, .int (Int32.ofNat o), .ref d, .int (Int32.ofNat q), .int (Int32.ofNat len)] 7)) (T9.setTop (mkF m 46 #[.val (.ref b), .val (.int (Int32.ofNat (o + len))), .val (.ref d), .val (.int (Int32.ofNat (q + len))), .val (.int (Int32.ofNat len)), .val (.int (Int32.ofNat len)), z9] [.int (Int32.ofNat len)])) := g9.trans (by
    refine XS.iload X9.here hexec rfl (hb hbytes d3) rfl ?_
    refine XS.iload X9.here hexec rfl (hb hbytes d5) rfl ?_
    refine XS.icmpYes X9.here hexec rfl (pc0 := 7) rfl (hb hbytes d7) rfl (ii_ge_t (nlt32 (by omega) (Nat.le_refl _))) (by decide) rfl ?_
    refine XS.iload X9.here hexec rfl (hb hbytes d44) rfl ?_
    exact Steps.refl _)
  exact ⟨T9, some (.int (Int32.ofNat len)), _, _, _, X9, by simp, rfl, rfl, (fun h => by cases h), ⟨rfl, B9, p9.from hh0, f9⟩, fun fs hl => c11.trans (X9.ireturnOut hexec hret rfl (Or.inl rfl) (hb hbytes d46) hl)⟩
end Cmp5
namespace Cmp3
def yN : MethodName := ⟨"java/lang/StringUTF16", "compress", "([CII)[B"⟩
abbrev yB : ByteArray := jdk_52_method_16_code
theorem d0 : decode yB 0 = .ok (.iload_n 2, 1) := by decide +kernel
theorem d1 : decode yB 1 = .ok (.newarray .byte, 2) := by decide +kernel
theorem d3 : decode yB 3 = .ok (.astore_n 3, 1) := by decide +kernel
theorem d4 : decode yB 4 = .ok (.aload_n 0, 1) := by decide +kernel
theorem d5 : decode yB 5 = .ok (.iload_n 1, 1) := by decide +kernel
theorem d6 : decode yB 6 = .ok (.aload_n 3, 1) := by decide +kernel
theorem d7 : decode yB 7 = .ok (.iconst 0, 1) := by decide +kernel
theorem d8 : decode yB 8 = .ok (.iload_n 2, 1) := by decide +kernel
theorem d9 : decode yB 9 = .ok (.invokestatic 115, 3) := by decide +kernel
theorem d12 : decode yB 12 = .ok (.istore 4, 2) := by decide +kernel
theorem d14 : decode yB 14 = .ok (.iload 4, 2) := by decide +kernel
theorem d16 : decode yB 16 = .ok (.iload_n 2, 1) := by decide +kernel
theorem d17 : decode yB 17 = .ok (.if_icmp (.eq) 40, 3) := by decide +kernel
theorem d57 : decode yB 57 = .ok (.aload_n 3, 1) := by decide +kernel
theorem d58 : decode yB 58 = .ok (.areturn, 1) := by decide +kernel
def site : List Cond := [.arrayClass .byte, Cmp5.tab] ++ staticW U16 115 Cmp5.yN
def tab : Cond := tabOf yN yB 6 (some (.array .byte)) site
def P (b : Addr) (A : Cell) (o len : Nat) (args : Array Value) (s : State) : Prop := args = #[.ref b, .int (Int32.ofNat o), .int (Int32.ofNat len)] ∧ Ch b A s ∧ o + len ≤ A.slots.size ∧ len ≤ 536870912 ∧ ∀ i, i < len → ¬ 255 < cv A (o + i)
def E (b : Addr) (A : Cell) (o len : Nat) (r : Option Value) (s u : State) : Prop := NewArr .byte "[B" len (fun j => .int (lo8 (cv A (o + j)))) r s u ∧ u.heap.size = s.heap.size + 1
/-- no char of the range above 255: a new byte[] of their low bytes -/
theorem law (l : Launch) (b : Addr) (A : Cell) (o len : Nat) : Law l yN 3 3 1 18 yB 6 (some (.array .byte)) site (P b A o len) (E b A o len) [] 1 len := by
  refine Law.of_walk (plainFor_of_name (by decide +kernel)) (by decide +kernel) (by decide +kernel) (by decide) (fun _ _ h => by rw [h.1]; rfl) (fun _ U U' hal hh h => ⟨h.1, h.2.1.mv hal hh, h.2.2⟩) (fun r U U' V V' h1 hal h2 h => ⟨NewArr.mv r U U' V V' h1 hal h2 h.1, by rw [h1, h2]; exact h.2⟩) ?_
  intro p e s m args below meth c s₁ X0 hexec hbytes hml hret hlk hnm hown hh0 W hP
  obtain ⟨rfl, hA, l1, l2, hp⟩ := hP
  have a31 := hA.1.2.2.2
  have c1 : Steps p.tables e below (s₁.setTop (entryFrame m #[.ref b, .int (Int32.ofNat o), .int (Int32.ofNat len)] 6)) (s₁.setTop (mkF m 0 #[.val (.ref b), .val (.int (Int32.ofNat o)), .val (.int (Int32.ofNat len)), .unset, .unset, .unset] [])) := entry rfl
  have c2 : Steps p.tables e below (s₁.setTop (entryFrame m #[.ref b, .int (Int32.ofNat o), .int (Int32.ofNat len)] 6)) (s₁.setTop (mkF m 1 #[.val (.ref b), .val (.int (Int32.ofNat o)), .val (.int (Int32.ofNat len)), .unset, .unset, .unset] [.int (Int32.ofNat len)])) := c1.trans (by
    refine XS.iloadN X0.here hexec rfl (hb hbytes d0) rfl ?_
    exact Steps.refl _)
  obtain ⟨T3, B3, X3, ba3, bs3, bv3, bh3, bf3, st3⟩ := X0.anew hexec (atype := .byte) (wk W (.arrayClass .byte)) rfl (by show len * 1 ≤ _; omega) (by omega) (g := (mkF m 1 #[.val (.ref b), .val (.int (Int32.ofNat o)), .val (.int (Int32.ofNat len)), .unset, .unset, .unset] [.int (Int32.ofNat len)])) rfl (hb hbytes d1) (rest := []) rfl (Nat.le_refl _) (by show 0 + len ≤ len; omega)
  rw [hh0] at ba3 st3
  have kp3 : XT.Kept s T3 := (XT.Kept.of_eq hh0).push bh3
  have hA3 := hA.keep X3.warmed.alike (kp3 _ _ hA.1.1)
  have hne : b ≠ s.heap.size := hA.1.ne
  have c4 : Steps p.tables e below (s₁.setTop (entryFrame m #[.ref b, .int (Int32.ofNat o), .int (Int32.ofNat len)] 6)) (T3.setTop (mkF m 3 #[.val (.ref b), .val (.int (Int32.ofNat o)), .val (.int (Int32.ofNat len)), .unset, .unset, .unset] [.ref s.heap.size])) := c2.trans (st3 _ (Steps.refl _))
  have c5 : Steps p.tables e below (s₁.setTop (entryFrame m #[.ref b, .int (Int32.ofNat o), .int (Int32.ofNat len)] 6)) (T3.setTop (mkF m 9 #[.val (.ref b), .val (.int (Int32.ofNat o)), .val (.int (Int32.ofNat len)), .val (.ref s.heap.size), .unset, .unset] [.int (Int32.ofNat len), .int 0, .ref s.heap.size, .int (Int32.ofNat o), .ref b])) := c4.trans (by
    refine XS.astoreN X3.here hexec rfl (hb hbytes d3) rfl rfl rfl ?_
    refine XS.aloadN X3.here hexec rfl (hb hbytes d4) rfl rfl ?_
    refine XS.iloadN X3.here hexec rfl (hb hbytes d5) rfl ?_
    refine XS.aloadN X3.here hexec rfl (hb hbytes d6) rfl rfl ?_
    refine iconstV X3.here hexec rfl 0 (hb hbytes d7) (by decide) ?_
    refine XS.iloadN X3.here hexec rfl (hb hbytes d8) rfl ?_
    exact Steps.refl _)
  obtain ⟨v6, T6, X6, E6, g6⟩ := X3.callS hexec (Cmp5.law l b A s.heap.size B3 o 0 len) hown (wks W (staticW U16 115 Cmp5.yN)) (wk W Cmp5.tab) (W := 0) (Nat.le_of_ble_eq_true rfl) (Nat.le_of_ble_eq_true rfl) (Nat.le_refl _) (by show 0 + len + 0 ≤ len; omega) (g := (mkF m 9 #[.val (.ref b), .val (.int (Int32.ofNat o)), .val (.int (Int32.ofNat len)), .val (.ref s.heap.size), .unset, .unset] [.int (Int32.ofNat len), .int (Int32.ofNat 0), .ref s.heap.size, .int (Int32.ofNat o), .ref b])) rfl (by rw [hml]; rfl) c5 (argsL := [.ref b, .int (Int32.ofNat o), .ref s.heap.size, .int (Int32.ofNat 0), .int (Int32.ofNat len)]) (rest := []) rfl rfl (by show 2 * 0 + 0 ≤ _; decide) (hb hbytes d9) (⟨rfl, hA3, ba3, hne, l1, by rw [bs3]; simp, hp⟩)
  obtain ⟨rfl, B6, p6, f6⟩ := E6
  have c7 : Steps p.tables e below (s₁.setTop (entryFrame m #[.ref b, .int (Int32.ofNat o), .int (Int32.ofNat len)] 6)) (T6.setTop (mkF m 12 #[.val (.ref b), .val (.int (Int32.ofNat o)), .val (.int (Int32.ofNat len)), .val (.ref s.heap.size), .unset, .unset] [.int (Int32.ofNat len)])) := g6
  have c8 : Steps p.tables e below (s₁.setTop (entryFrame m #[.ref b, .int (Int32.ofNat o), .int (Int32.ofNat len)] 6)) (T6.setTop (mkF m 58 #[.val (.ref b), .val (.int (Int32.ofNat o)), .val (.int (Int32.ofNat len)), .val (.ref s.heap.size), .val (.int (Int32.ofNat len)), .unset] [.ref s.heap.size])) := c7.trans (by
    refine XS.istore X6.here hexec rfl (hb hbytes d12) rfl rfl ?_
    refine XS.iload X6.here hexec rfl (hb hbytes d14) rfl ?_
    refine XS.iloadN X6.here hexec rfl (hb hbytes d16) rfl ?_
    refine XS.icmpYes X6.here hexec rfl (pc0 := 17) rfl (hb hbytes d17) rfl (ii_eq_t rfl) (by decide) rfl ?_
    refine XS.aloadN X6.here hexec rfl (hb hbytes d57) rfl rfl ?_
    exact Steps.refl _)
  have X8 := X6.wide (L' := []) (cells' := 1) (slots' := len) (fun x hx hlt => by
    simp only [List.nil_append, copyLocs, List.mem_map, List.mem_range] at hx
    obtain ⟨i, -, rfl⟩ := hx
    exact absurd hlt (Nat.lt_irrefl _)) (Nat.le_refl _) (by omega)
  exact ⟨T6, some (.ref s.heap.size), _, _, _, X8, rfl, rfl, rfl, (fun h => by cases h), ⟨⟨rfl, B6, ba3.like (X3.warmed.alike.symm.trans X6.warmed.alike) p6.1 f6.1 f6.2.1 f6.2.2.1, f6.2.1.trans bv3, by rw [X6.warmed.alike.findClass, f6.1]; exact bf3, by rw [f6.2.2.1, bs3]; simp, fun j hj => by rw [f6.2.2.2 j, if_pos (by omega)]; rfl, kp3.put p6 (Nat.le_refl _)⟩, by rw [p6.2.2, bh3, hh0]; simp⟩, fun fs hl => c8.trans (X8.areturnOut hexec rfl hret rfl (hb hbytes d58) hl)⟩
end Cmp3
namespace CodL
def yN : MethodName := ⟨"java/lang/StringUTF16", "coderFromArrayLen", "([BI)B"⟩
abbrev yB : ByteArray := jdk_52_method_15_code
theorem d0 : decode yB 0 = .ok (.iload_n 1, 1) := by decide +kernel
theorem d1 : decode yB 1 = .ok (.aload_n 0, 1) := by decide +kernel
theorem d2 : decode yB 2 = .ok (.arraylength, 1) := by decide +kernel
theorem d3 : decode yB 3 = .ok (.isub, 1) := by decide +kernel
theorem d4 : decode yB 4 = .ok (.bipush 31, 2) := by decide +kernel
theorem d6 : decode yB 6 = .ok (.iushr, 1) := by decide +kernel
theorem d7 : decode yB 7 = .ok (.i2b, 1) := by decide +kernel
theorem d8 : decode yB 8 = .ok (.ireturn, 1) := by decide +kernel
def site : List Cond := []
def tab : Cond := tabOf yN yB 2 (some .byte) site
def P (d : Addr) (B : Cell) (args : Array Value) (s : State) : Prop := args = #[.ref d, .int (Int32.ofNat B.slots.size)] ∧ Arr .byte d B s
def E (r : Option Value) (s u : State) : Prop := XT.PureE (some (.int 0)) r s u
/-- an array as long as the number of chars: LATIN1 -/
theorem law (l : Launch) (d : Addr) (B : Cell) : Law l yN 2 2 0 0 yB 2 (some .byte) site (P d B) E [] 0 0 := by
  refine Law.of_walk (plainFor_of_name (by decide +kernel)) (by decide +kernel) (by decide +kernel) (by decide) (fun _ _ h => by rw [h.1]; rfl) (fun _ U U' hal hh h => ⟨h.1, h.2.mv hal hh⟩) (fun r U U' V V' h1 hal h2 h => XT.PureE.mv r U U' V V' h1 hal h2 h) ?_
  intro p e s m args below meth c s₁ X0 hexec hbytes hml hret hlk hnm hown hh0 W hP
  obtain ⟨rfl, hB⟩ := hP
  have hB0 := hB.mv X0.warmed.alike hh0
  have c1 : Steps p.tables e below (s₁.setTop (entryFrame m #[.ref d, .int (Int32.ofNat B.slots.size)] 2)) (s₁.setTop (mkF m 0 #[.val (.ref d), .val (.int (Int32.ofNat B.slots.size))] [])) := entry rfl
  have c2 : Steps p.tables e below (s₁.setTop (entryFrame m #[.ref d, .int (Int32.ofNat B.slots.size)] 2)) (s₁.setTop (mkF m 2 #[.val (.ref d), .val (.int (Int32.ofNat B.slots.size))] [.ref d, .int (Int32.ofNat B.slots.size)])) := c1.trans (by
    refine XS.iloadN X0.here hexec rfl (hb hbytes d0) rfl ?_
    refine XS.aloadN X0.here hexec rfl (hb hbytes d1) rfl rfl ?_
    exact Steps.refl _)
  have c3 : Steps p.tables e below (s₁.setTop (entryFrame m #[.ref d, .int (Int32.ofNat B.slots.size)] 2)) (s₁.setTop (mkF m 8 #[.val (.ref d), .val (.int (Int32.ofNat B.slots.size))] [.int (lo8 (ushr (Int32.ofNat B.slots.size - Int32.ofNat B.slots.size) 31))])) := c2.trans (by
    refine X0.alen hexec hB0 rfl rfl (hb hbytes d2) ?_
    refine XS.isub X0.here hexec rfl (hb hbytes d3) rfl ?_
    refine bipushV X0.here hexec rfl 31 (hb hbytes d4) (by decide) ?_
    refine iushr X0.here hexec rfl (hb hbytes d6) rfl ?_
    refine i2b X0.here hexec rfl (hb hbytes d7) rfl ?_
    exact Steps.refl _)
  have e0 : lo8 (ushr (Int32.ofNat B.slots.size - Int32.ofNat B.slots.size) 31) = 0 := by rw [Int32.sub_self]; decide
  rw [e0] at c3
  exact ⟨s₁, some (.int 0), _, _, _, X0, rfl, rfl, rfl, (fun h => by cases h), ⟨rfl, hh0⟩, fun fs hl => c3.trans (X0.ireturnOut hexec hret rfl (Or.inr (Or.inr (Or.inl rfl))) (hb hbytes d8) hl)⟩
end CodL
/-- the String at a is Latin-1 over a new byte[] (the heap's one new cell): the low bytes of the len chars of A from o on; every cell but a is kept -/
def Got (a : Addr) (D : Cell) (fV fC : Field) (A : Cell) (o len : Nat) (r : Option Value) (s u : State) : Prop := r = none ∧ ∃ D' V : Cell, Blank "java/lang/String" a D' u ∧ Same D D' [fV.slot, fC.slot] ∧ D'.slots[fV.slot]? = some (.ref s.heap.size) ∧ D'.slots[fC.slot]? = some (.int 0) ∧ Arr .byte s.heap.size V u ∧ V.vm = .none ∧ u.vm.findClass "[B" = some V.cls ∧ V.slots.size = len ∧ (∀ j, j < len → V.slots[j]? = some (.int (lo8 (cv A (o + j))))) ∧ (∀ (y : Addr) (c : Cell), y ≠ a → s.heap[y]? = some c → u.heap[y]? = some c) ∧ u.heap.size = s.heap.size + 1
theorem Got.mv {a : Addr} {D A : Cell} {fV fC : Field} {o len : Nat} : ∀ r (U U' V V' : State), U'.heap = U.heap → V.vm.Alike V'.vm → V'.heap = V.heap → Got a D fV fC A o len r U V → Got a D fV fC A o len r U' V' :=
  fun r U U' V V' h1 hal h2 ⟨e0, D', X, a1, a2, a3, a4, a5, a6, a7, a8, a9, a10, a11⟩ => ⟨e0, D', X, a1.mv hal h2, a2, by rw [h1]; exact a3, a4, by rw [h1]; exact a5.mv hal h2, a6, by rw [hal.findClass]; exact a7, a8, a9, by rw [h1, h2]; exact a10, by rw [h1, h2]; exact a11⟩
namespace New4
def yN : MethodName := ⟨"java/lang/String", "<init>", "([CIILjava/lang/Void;)V"⟩
abbrev yB : ByteArray := jdk_42_method_149_code
theorem d0 : decode yB 0 = .ok (.aload_n 0, 1) := by decide +kernel
theorem d1 : decode yB 1 = .ok (.invokespecial 1, 3) := by decide +kernel
theorem d4 : decode yB 4 = .ok (.iload_n 3, 1) := by decide +kernel
theorem d5 : decode yB 5 = .ok (.ifCond (.ne) 22, 3) := by decide +kernel
theorem d27 : decode yB 27 = .ok (.getstatic 38, 3) := by decide +kernel
theorem d30 : decode yB 30 = .ok (.ifCond (.eq) 28, 3) := by decide +kernel
theorem d33 : decode yB 33 = .ok (.aload_n 1, 1) := by decide +kernel
theorem d34 : decode yB 34 = .ok (.iload_n 2, 1) := by decide +kernel
theorem d35 : decode yB 35 = .ok (.iload_n 3, 1) := by decide +kernel
theorem d36 : decode yB 36 = .ok (.invokestatic 177, 3) := by decide +kernel
theorem d39 : decode yB 39 = .ok (.astore 5, 2) := by decide +kernel
theorem d41 : decode yB 41 = .ok (.aload_n 0, 1) := by decide +kernel
theorem d42 : decode yB 42 = .ok (.aload 5, 2) := by decide +kernel
theorem d44 : decode yB 44 = .ok (.iload_n 3, 1) := by decide +kernel
theorem d45 : decode yB 45 = .ok (.invokestatic 47, 3) := by decide +kernel
theorem d48 : decode yB 48 = .ok (.putfield 15, 3) := by decide +kernel
theorem d51 : decode yB 51 = .ok (.aload_n 0, 1) := by decide +kernel
theorem d52 : decode yB 52 = .ok (.aload 5, 2) := by decide +kernel
theorem d54 : decode yB 54 = .ok (.putfield 9, 3) := by decide +kernel
theorem d57 : decode yB 57 = .ok (.return_, 1) := by decide +kernel
def site : List Cond := [.fieldLink "java/lang/String" 38 "java/lang/String" "COMPACT_STRINGS" "Z", Cmp3.tab, CodL.tab, .laysFinal "java/lang/String" "java/lang/String" "value" "[B", .fieldLink "java/lang/String" 9 "java/lang/String" "value" "[B", .laysFinal "java/lang/String" "java/lang/String" "coder" "B", .fieldLink "java/lang/String" 15 "java/lang/String" "coder" "B"] ++ objW "java/lang/String" 1 ++ staticW "java/lang/String" 177 Cmp3.yN ++ staticW "java/lang/String" 47 CodL.yN
def tab : Cond := tabOf yN yB 6 none site
def P (a : Addr) (D : Cell) (fV fC : Field) (b : Addr) (A : Cell) (z : Int32) (o len : Nat) (args : Array Value) (s : State) : Prop := args = #[.ref a, .ref b, .int (Int32.ofNat o), .int (Int32.ofNat len), .null] ∧ Blank "java/lang/String" a D s ∧ Found "java/lang/String" "value" "[B" fV s ∧ Found "java/lang/String" "coder" "B" fC s ∧ Ch b A s ∧ StaticIs s "java/lang/String" "COMPACT_STRINGS" "Z" (.int z) ∧ ¬ z = 0 ∧ 0 < len ∧ o + len ≤ A.slots.size ∧ len ≤ 536870912 ∧ ∀ i, i < len → ¬ 255 < cv A (o + i)
def E (a : Addr) (D : Cell) (fV fC : Field) (A : Cell) (o len : Nat) (r : Option Value) (s u : State) : Prop := Got a D fV fC A o len r s u
/-- len > 0, no char of the range above 255: a Latin-1 String of their low bytes -/
theorem law (l : Launch) (a : Addr) (D : Cell) (fV fC : Field) (b : Addr) (A : Cell) (z : Int32) (o len : Nat) : Law l yN 5 4 2 35 yB 6 none site (P a D fV fC b A z o len) (E a D fV fC A o len) [⟨a, fC.slot⟩, ⟨a, fV.slot⟩] 1 len := by
  refine Law.of_walk (plainFor_of_name (by decide +kernel)) (by decide +kernel) (by decide +kernel) (by decide) (fun _ _ h => by rw [h.1]; rfl) (fun _ U U' hal hh h => ⟨h.1, h.2.1.mv hal hh, h.2.2.1.al hal, h.2.2.2.1.al hal, h.2.2.2.2.1.mv hal hh, h.2.2.2.2.2.1.there hal hh, h.2.2.2.2.2.2⟩) (fun r U U' V V' h1 hal h2 h => Got.mv r U U' V V' h1 hal h2 h) ?_
  intro p e s m args below meth c s₁ X0 hexec hbytes hml hret hlk hnm hown hh0 W hP
  obtain ⟨rfl, hB, f1, f2, hA, s1, hz, l0, l1, l2, hp⟩ := hP
  have a31 := hA.1.2.2.2
  have c1 : Steps p.tables e below (s₁.setTop (entryFrame m #[.ref a, .ref b, .int (Int32.ofNat o), .int (Int32.ofNat len), .null] 6)) (s₁.setTop (mkF m 0 #[.val (.ref a), .val (.ref b), .val (.int (Int32.ofNat o)), .val (.int (Int32.ofNat len)), .val .null, .unset] [])) := entry rfl
  have c2 : Steps p.tables e below (s₁.setTop (entryFrame m #[.ref a, .ref b, .int (Int32.ofNat o), .int (Int32.ofNat len), .null] 6)) (s₁.setTop (mkF m 1 #[.val (.ref a), .val (.ref b), .val (.int (Int32.ofNat o)), .val (.int (Int32.ofNat len)), .val .null, .unset] [.ref a])) := c1.trans (by
    refine XS.aloadN X0.here hexec rfl (hb hbytes d0) rfl rfl ?_
    exact Steps.refl _)
  obtain ⟨T3, X3, q3, st3⟩ := X0.oinit hexec hown (wks W (objW "java/lang/String" 1)) (g := (mkF m 1 #[.val (.ref a), .val (.ref b), .val (.int (Int32.ofNat o)), .val (.int (Int32.ofNat len)), .val .null, .unset] [.ref a])) rfl (by rw [hml]; rfl) (rest := []) rfl (hb hbytes d1) (W := 0) (by show 2 * 0 + 0 ≤ _; decide) (Nat.le_of_ble_eq_true rfl) (Nat.le_of_ble_eq_true rfl)
  have hh3 := q3.trans hh0
  have c4 : Steps p.tables e below (s₁.setTop (entryFrame m #[.ref a, .ref b, .int (Int32.ofNat o), .int (Int32.ofNat len), .null] 6)) (T3.setTop (mkF m 27 #[.val (.ref a), .val (.ref b), .val (.int (Int32.ofNat o)), .val (.int (Int32.ofNat len)), .val .null, .unset] [])) := (c2.trans (st3 _ (Steps.refl _))).trans (by
    refine XS.iloadN X3.here hexec rfl (hb hbytes d4) rfl ?_
    refine XS.ifYes X3.here hexec rfl (pc0 := 5) rfl (hb hbytes d5) rfl (i0_ne_t (nz32 (by omega) l0)) (by decide) rfl ?_
    exact Steps.refl _)
  obtain ⟨T5, X5, q5, st5⟩ := X3.sget hexec hown (wk W (.fieldLink "java/lang/String" 38 "java/lang/String" "COMPACT_STRINGS" "Z")) s1 (fun _ _ h => by rw [hh3]; exact h) (g := (mkF m 27 #[.val (.ref a), .val (.ref b), .val (.int (Int32.ofNat o)), .val (.int (Int32.ofNat len)), .val .null, .unset] [])) rfl (hb hbytes d27)
  have hh5 := q5.trans hh3
  have c6 : Steps p.tables e below (s₁.setTop (entryFrame m #[.ref a, .ref b, .int (Int32.ofNat o), .int (Int32.ofNat len), .null] 6)) (T5.setTop (mkF m 30 #[.val (.ref a), .val (.ref b), .val (.int (Int32.ofNat o)), .val (.int (Int32.ofNat len)), .val .null, .unset] [.int z])) := c4.trans (st5 _ (Steps.refl _))
  have c7 : Steps p.tables e below (s₁.setTop (entryFrame m #[.ref a, .ref b, .int (Int32.ofNat o), .int (Int32.ofNat len), .null] 6)) (T5.setTop (mkF m 36 #[.val (.ref a), .val (.ref b), .val (.int (Int32.ofNat o)), .val (.int (Int32.ofNat len)), .val .null, .unset] [.int (Int32.ofNat len), .int (Int32.ofNat o), .ref b])) := c6.trans (by
    refine XS.ifNo X5.here hexec rfl (hb hbytes d30) rfl (i0_eq_f hz) ?_
    refine XS.aloadN X5.here hexec rfl (hb hbytes d33) rfl rfl ?_
    refine XS.iloadN X5.here hexec rfl (hb hbytes d34) rfl ?_
    refine XS.iloadN X5.here hexec rfl (hb hbytes d35) rfl ?_
    exact Steps.refl _)
  obtain ⟨v8, T8, X8, E8, g8⟩ := X5.callS hexec (Cmp3.law l b A o len) hown (wks W (staticW "java/lang/String" 177 Cmp3.yN)) (wk W Cmp3.tab) (W := 0) (Nat.le_of_ble_eq_true rfl) (Nat.le_of_ble_eq_true rfl) (Nat.le_refl _) (by show 0 + len ≤ len; omega) (g := (mkF m 36 #[.val (.ref a), .val (.ref b), .val (.int (Int32.ofNat o)), .val (.int (Int32.ofNat len)), .val .null, .unset] [.int (Int32.ofNat len), .int (Int32.ofNat o), .ref b])) rfl (by rw [hml]; rfl) c7 (argsL := [.ref b, .int (Int32.ofNat o), .int (Int32.ofNat len)]) (rest := []) rfl rfl (by show 2 * 0 + 0 ≤ _; decide) (hb hbytes d36) (⟨rfl, hA.mv X5.warmed.alike hh5, l1, l2, hp⟩)
  obtain ⟨e8, z8⟩ := E8
  obtain ⟨rfl, N, n1, n2, n3, n4, n5, n6⟩ := NewArr.mv _ T5 s _ _ hh5.symm (Vm.Alike.refl _) rfl e8
  rw [hh5] at z8
  have hB1 := hB.keep X8.warmed.alike (n6 _ _ hB.1)
  have hne : s.heap.size ≠ a := (Nat.ne_of_lt (Array.getElem?_eq_some_iff.mp hB.1).1).symm
  have c9 : Steps p.tables e below (s₁.setTop (entryFrame m #[.ref a, .ref b, .int (Int32.ofNat o), .int (Int32.ofNat len), .null] 6)) (T8.setTop (mkF m 39 #[.val (.ref a), .val (.ref b), .val (.int (Int32.ofNat o)), .val (.int (Int32.ofNat len)), .val .null, .unset] [.ref s.heap.size])) := g8
  have c10 : Steps p.tables e below (s₁.setTop (entryFrame m #[.ref a, .ref b, .int (Int32.ofNat o), .int (Int32.ofNat len), .null] 6)) (T8.setTop (mkF m 45 #[.val (.ref a), .val (.ref b), .val (.int (Int32.ofNat o)), .val (.int (Int32.ofNat len)), .val .null, .val (.ref s.heap.size)] [.int (Int32.ofNat N.slots.size), .ref s.heap.size, .ref a])) := by
    have hc : Steps p.tables e below (s₁.setTop (entryFrame m #[.ref a, .ref b, .int (Int32.ofNat o), .int (Int32.ofNat len), .null] 6)) (T8.setTop (mkF m 45 #[.val (.ref a), .val (.ref b), .val (.int (Int32.ofNat o)), .val (.int (Int32.ofNat len)), .val .null, .val (.ref s.heap.size)] [.int (Int32.ofNat len), .ref s.heap.size, .ref a])) := c9.trans (by
      refine XS.astore X8.here hexec rfl (hb hbytes d39) rfl rfl rfl ?_
      refine XS.aloadN X8.here hexec rfl (hb hbytes d41) rfl rfl ?_
      refine XS.aload X8.here hexec rfl (hb hbytes d42) rfl rfl ?_
      refine XS.iloadN X8.here hexec rfl (hb hbytes d44) rfl ?_
      exact Steps.refl _)
    rw [n4]; exact hc
  obtain ⟨v11, T11, X11, E11, g11⟩ := X8.callS hexec (CodL.law l s.heap.size N) hown (wks W (staticW "java/lang/String" 47 CodL.yN)) (wk W CodL.tab) (W := 1) (Nat.le_of_ble_eq_true rfl) (Nat.le_of_ble_eq_true rfl) (Nat.le_refl _) (by show 0 + len + 0 ≤ len; omega) (g := (mkF m 45 #[.val (.ref a), .val (.ref b), .val (.int (Int32.ofNat o)), .val (.int (Int32.ofNat len)), .val .null, .val (.ref s.heap.size)] [.int (Int32.ofNat N.slots.size), .ref s.heap.size, .ref a])) rfl (by rw [hml]; rfl) c10 (argsL := [.ref s.heap.size, .int (Int32.ofNat N.slots.size)]) (rest := [.ref a]) rfl rfl (by show 2 * 0 + (1 + 0) ≤ _; decide) (hb hbytes d45) (⟨rfl, n1⟩)
  obtain ⟨rfl, q11⟩ := E11
  have hB11 := hB1.mv (X8.warmed.alike.symm.trans X11.warmed.alike) q11
  have c12 : Steps p.tables e below (s₁.setTop (entryFrame m #[.ref a, .ref b, .int (Int32.ofNat o), .int (Int32.ofNat len), .null] 6)) (T11.setTop (mkF m 48 #[.val (.ref a), .val (.ref b), .val (.int (Int32.ofNat o)), .val (.int (Int32.ofNat len)), .val .null, .val (.ref s.heap.size)] [.int 0, .ref a])) := g11
  obtain ⟨T13, X13, p13, bl13, sl13, st13⟩ := X11.finit hexec hown (wk W (.fieldLink "java/lang/String" 15 "java/lang/String" "coder" "B")) (Or.inr ⟨_, (wk W (.laysFinal "java/lang/String" "java/lang/String" "coder" "B"))⟩) (Or.inl ⟨rfl, hnm⟩) f2 (Or.inl rfl) hB11 (t := .byte) (by decide +kernel) rfl (g := (mkF m 48 #[.val (.ref a), .val (.ref b), .val (.int (Int32.ofNat o)), .val (.int (Int32.ofNat len)), .val .null, .val (.ref s.heap.size)] [.int 0, .ref a])) rfl (rest := []) rfl (hb hbytes d48)
  have c14 : Steps p.tables e below (s₁.setTop (entryFrame m #[.ref a, .ref b, .int (Int32.ofNat o), .int (Int32.ofNat len), .null] 6)) (T13.setTop (mkF m 54 #[.val (.ref a), .val (.ref b), .val (.int (Int32.ofNat o)), .val (.int (Int32.ofNat len)), .val .null, .val (.ref s.heap.size)] [.ref s.heap.size, .ref a])) := (c12.trans (st13 _ (Steps.refl _))).trans (by
    refine XS.aloadN X13.here hexec rfl (hb hbytes d51) rfl rfl ?_
    refine XS.aload X13.here hexec rfl (hb hbytes d52) rfl rfl ?_
    exact Steps.refl _)
  obtain ⟨T15, X15, p15, bl15, sl15, st15⟩ := X13.finit hexec hown (wk W (.fieldLink "java/lang/String" 9 "java/lang/String" "value" "[B")) (Or.inr ⟨_, (wk W (.laysFinal "java/lang/String" "java/lang/String" "value" "[B"))⟩) (Or.inl ⟨rfl, hnm⟩) f1 (Or.inl rfl) bl13 (t := (.array .byte)) (by decide +kernel) rfl (g := (mkF m 54 #[.val (.ref a), .val (.ref b), .val (.int (Int32.ofNat o)), .val (.int (Int32.ofNat len)), .val .null, .val (.ref s.heap.size)] [.ref s.heap.size, .ref a])) rfl (rest := []) rfl (hb hbytes d54)
  have c16 : Steps p.tables e below (s₁.setTop (entryFrame m #[.ref a, .ref b, .int (Int32.ofNat o), .int (Int32.ofNat len), .null] 6)) (T15.setTop (mkF m 57 #[.val (.ref a), .val (.ref b), .val (.int (Int32.ofNat o)), .val (.int (Int32.ofNat len)), .val .null, .val (.ref s.heap.size)] [])) := c14.trans (st15 _ (Steps.refl _))
  have ap := apart (Or.inr ⟨_, (wk W (.laysFinal "java/lang/String" "java/lang/String" "value" "[B"))⟩) (Or.inr ⟨_, (wk W (.laysFinal "java/lang/String" "java/lang/String" "coder" "B"))⟩) f1 f2 (t₁ := .array .byte) (t₂ := .byte) (by decide +kernel) (by decide +kernel) (by decide)
  have al := X8.warmed.alike.symm.trans X15.warmed.alike
  have n7 : T11.heap[s.heap.size]? = some N := by rw [q11]; exact n1.1
  exact ⟨T15, none, _, _, _, X15, by simp, rfl, by omega, (fun _ => rfl), ⟨rfl, _, N, bl15, ((Same.refl D _).set _ (by simp)).set _ (by simp), sl15, (Cell.slots_setSlot_ne _ ap).trans sl13, n1.keep al (p15.other hne (p13.other hne n7)), n2, by rw [al.findClass]; exact n3, n4, n5, fun y c h1 h2 => p15.other h1 (p13.other h1 (by rw [q11]; exact n6 y c h2)), by rw [p15.2.2, p13.2.2, q11]; exact z8⟩, fun fs hl => c16.trans (X15.returnOut hexec hret (hb hbytes d57) hl)⟩
end New4
namespace New1
def yN : MethodName := ⟨"java/lang/String", "<init>", "([C)V"⟩
abbrev yB : ByteArray := jdk_42_method_3_code
theorem d0 : decode yB 0 = .ok (.aload_n 0, 1) := by decide +kernel
theorem d1 : decode yB 1 = .ok (.aload_n 1, 1) := by decide +kernel
theorem d2 : decode yB 2 = .ok (.iconst 0, 1) := by decide +kernel
theorem d3 : decode yB 3 = .ok (.aload_n 1, 1) := by decide +kernel
theorem d4 : decode yB 4 = .ok (.arraylength, 1) := by decide +kernel
theorem d5 : decode yB 5 = .ok (.aconst_null, 1) := by decide +kernel
theorem d6 : decode yB 6 = .ok (.invokespecial 27, 3) := by decide +kernel
theorem d9 : decode yB 9 = .ok (.return_, 1) := by decide +kernel
def site : List Cond := [New4.tab] ++ initW "java/lang/String" 27 New4.yN
def tab : Cond := tabOf yN yB 2 none site
def P (a : Addr) (D : Cell) (fV fC : Field) (b : Addr) (A : Cell) (z : Int32) (args : Array Value) (s : State) : Prop := args = #[.ref a, .ref b] ∧ Blank "java/lang/String" a D s ∧ Found "java/lang/String" "value" "[B" fV s ∧ Found "java/lang/String" "coder" "B" fC s ∧ Ch b A s ∧ StaticIs s "java/lang/String" "COMPACT_STRINGS" "Z" (.int z) ∧ ¬ z = 0 ∧ 0 < A.slots.size ∧ A.slots.size ≤ 536870912 ∧ ∀ i, i < A.slots.size → ¬ 255 < cv A i
def E (a : Addr) (D : Cell) (fV fC : Field) (A : Cell) (r : Option Value) (s u : State) : Prop := Got a D fV fC A 0 A.slots.size r s u
/-- new String(chars), not empty, no char above 255: a Latin-1 String of their low bytes -/
theorem law (l : Launch) (a : Addr) (D : Cell) (fV fC : Field) (b : Addr) (A : Cell) (z : Int32) : Law l yN 2 1 3 52 yB 2 none site (P a D fV fC b A z) (E a D fV fC A) [⟨a, fC.slot⟩, ⟨a, fV.slot⟩] 1 A.slots.size := by
  refine Law.of_walk (plainFor_of_name (by decide +kernel)) (by decide +kernel) (by decide +kernel) (by decide) (fun _ _ h => by rw [h.1]; rfl) (fun _ U U' hal hh h => ⟨h.1, h.2.1.mv hal hh, h.2.2.1.al hal, h.2.2.2.1.al hal, h.2.2.2.2.1.mv hal hh, h.2.2.2.2.2.1.there hal hh, h.2.2.2.2.2.2⟩) (fun r U U' V V' h1 hal h2 h => Got.mv r U U' V V' h1 hal h2 h) ?_
  intro p e s m args below meth c s₁ X0 hexec hbytes hml hret hlk hnm hown hh0 W hP
  obtain ⟨rfl, hB, f1, f2, hA, s1, hz, l0, l2, hp⟩ := hP
  have c1 : Steps p.tables e below (s₁.setTop (entryFrame m #[.ref a, .ref b] 2)) (s₁.setTop (mkF m 0 #[.val (.ref a), .val (.ref b)] [])) := entry rfl
  have c2 : Steps p.tables e below (s₁.setTop (entryFrame m #[.ref a, .ref b] 2)) (s₁.setTop (mkF m 6 #[.val (.ref a), .val (.ref b)] [.null, .int (Int32.ofNat A.slots.size), .int 0, .ref b, .ref a])) := c1.trans (by
    refine XS.aloadN X0.here hexec rfl (hb hbytes d0) rfl rfl ?_
    refine XS.aloadN X0.here hexec rfl (hb hbytes d1) rfl rfl ?_
    refine iconstV X0.here hexec rfl 0 (hb hbytes d2) (by decide) ?_
    refine XS.aloadN X0.here hexec rfl (hb hbytes d3) rfl rfl ?_
    refine X0.alen hexec (hA.1.mv X0.warmed.alike hh0) rfl rfl (hb hbytes d4) ?_
    refine XS.aconstNull X0.here hexec rfl (hb hbytes d5) ?_
    exact Steps.refl _)
  obtain ⟨v3, T3, X3, E3, g3⟩ := X0.callN hexec (New4.law l a D fV fC b A z 0 A.slots.size) rfl hown (wks W (initW "java/lang/String" 27 New4.yN)) (W New4.tab (by simp only [site, List.mem_cons, List.mem_append, true_or, or_true])) (W := 0) (Nat.le_of_ble_eq_true rfl) (Nat.le_of_ble_eq_true rfl) (Nat.le_refl _) (by show 0 + A.slots.size ≤ A.slots.size; omega) (g := (mkF m 6 #[.val (.ref a), .val (.ref b)] [.null, .int (Int32.ofNat A.slots.size), .int (Int32.ofNat 0), .ref b, .ref a])) rfl (by rw [hml]; rfl) c2 (argsL := [.ref b, .int (Int32.ofNat 0), .int (Int32.ofNat A.slots.size), .null]) (rest := []) rfl rfl (by show 2 * 0 + 0 ≤ _; decide) (hb hbytes d6) (⟨rfl, hB.mv X0.warmed.alike hh0, f1.al X0.warmed.alike, f2.al X0.warmed.alike, hA.mv X0.warmed.alike hh0, s1.there X0.warmed.alike hh0, hz, l0, by omega, l2, fun i hi => by rw [Nat.zero_add]; exact hp i hi⟩)
  have e0 := Got.mv _ s₁ s _ _ hh0.symm (Vm.Alike.refl _) rfl E3
  obtain rfl := e0.1
  have c4 : Steps p.tables e below (s₁.setTop (entryFrame m #[.ref a, .ref b] 2)) (T3.setTop (mkF m 9 #[.val (.ref a), .val (.ref b)] [])) := g3
  exact ⟨T3, none, _, _, _, X3, by simp, rfl, by omega, (fun _ => rfl), e0, fun fs hl => c4.trans (X3.returnOut hexec hret (hb hbytes d9) hl)⟩
theorem pays {l : Launch} {R : Room} {p : Program} {e : Env} {below : List Frame} {s : State} {sargs : Array Value} {len W : Nat} (a : Addr) (D : Cell) (fV fC : Field) (b : Addr) (A : Cell) (z : Int32) (htab : tab.before sargs s = true) (hfr : 4 ≤ R.frames) (hlo : W + 65 ≤ R.locals) :
    Back l R p e below s sargs yN len W (fun A₁ a₁ => A₁.cells + 1 ≤ R.cells ∧ A₁.slots + A.slots.size ≤ R.slots ∧ P a D fV fC b A z a₁ A₁.U) (fun A₁ _ v₁ B₁ => E a D fV fC A v₁ A₁.U B₁.U ∧ B₁.locs = A₁.locs ++ [⟨a, fC.slot⟩, ⟨a, fV.slot⟩] ∧ B₁.cells = A₁.cells + 1 ∧ B₁.slots = A₁.slots + A.slots.size) :=
  (law l a D fV fC b A z).pays htab hfr (by omega)
end New1
/-- the byte, read back as charAt reads it, is the char -/
theorem lo8_mask {x : Int32} (h0 : ¬ x < 0) (h1 : ¬ 255 < x) : lo8 x &&& 255 = x := by
  have t : ∀ k : Fin 256, lo8 (Int32.ofNat k.val) &&& 255 = Int32.ofNat k.val := by decide +kernel
  rw [Int32.lt_iff_toInt_lt] at h0 h1
  have e0 : (0 : Int32).toInt = 0 := rfl
  have e1 : (255 : Int32).toInt = 255 := rfl
  obtain ⟨k, hk⟩ : ∃ k : Nat, x.toInt = k := ⟨x.toInt.toNat, by omega⟩
  have hx : x = Int32.ofNat k := Int32.toInt_inj.mp (by rw [hk, Int32.toInt_ofNat_small (by omega)])
  rw [hx]
  exact t ⟨k, by omega⟩
end StrChars
namespace StrChars.Road
open Jvm Sem ClassFile Op Lib Jvm.Stand Jvm.Free Jvm.Free.XT
open Jvm.Lib.Cold (StaticIs)
abbrev ST : String := "java/lang/String"
/-- every table word that New1's law asks, flat -/
abbrev words : List Jvm.Cond := [.code New1.yN New1.yB 2 none, .initialized ST, .methodLink ST 27 New4.yN, .instanceMethod New4.yN,
  .code New4.yN New4.yB 6 none, .fieldLink ST 38 ST "COMPACT_STRINGS" "Z", .laysFinal ST ST "value" "[B", .fieldLink ST 9 ST "value" "[B", .laysFinal ST ST "coder" "B", .fieldLink ST 15 ST "coder" "B",
  .methodLink ST 1 Lib.objectInit, .instanceMethod Lib.objectInit, .code Lib.objectInit ⟨#[0xb1]⟩ 1 none, .methodLink ST 177 Cmp3.yN, .static Cmp3.yN, .methodLink ST 47 CodL.yN, .static CodL.yN,
  .code Cmp3.yN Cmp3.yB 6 (some (.array .byte)), .initialized U16, .arrayClass .byte, .methodLink U16 115 Cmp5.yN, .static Cmp5.yN, .code Cmp5.yN Cmp5.yB 7 (some .int), .code CodL.yN CodL.yB 2 (some .byte)]
theorem tab_of {a : Array Value} {s : State} (h : ∀ w ∈ words, w.before a s = true) : New1.tab.before a s = true := by
  have h5 : Cmp5.tab.before a s = true := unparts (wk h (.code Cmp5.yN Cmp5.yB 7 (some .int))) (wks h (.initialized Cmp5.yN.cls :: Cmp5.site))
  have hc : CodL.tab.before a s = true := unparts (wk h (.code CodL.yN CodL.yB 2 (some .byte))) (wks h (.initialized CodL.yN.cls :: CodL.site))
  have q5 : ∀ w ∈ Cmp5.tab :: words, w.before a s = true := fun w hw => (List.mem_cons.mp hw).elim (fun e => e ▸ h5) (h w)
  have h3 : Cmp3.tab.before a s = true := unparts (wk q5 (.code Cmp3.yN Cmp3.yB 6 (some (.array .byte)))) (wks q5 (.initialized Cmp3.yN.cls :: Cmp3.site))
  have q3 : ∀ w ∈ Cmp3.tab :: CodL.tab :: words, w.before a s = true := fun w hw => (List.mem_cons.mp hw).elim (fun e => e ▸ h3) fun hw => (List.mem_cons.mp hw).elim (fun e => e ▸ hc) (h w)
  have h4 : New4.tab.before a s = true := unparts (wk q3 (.code New4.yN New4.yB 6 none)) (wks q3 (.initialized New4.yN.cls :: New4.site))
  have q4 : ∀ w ∈ New4.tab :: words, w.before a s = true := fun w hw => (List.mem_cons.mp hw).elim (fun e => e ▸ h4) (h w)
  exact unparts (wk q4 (.code New1.yN New1.yB 2 none)) (wks q4 (.initialized New1.yN.cls :: New1.site))
/-- the words ride from the start Z to the walk's own state -/
theorem moved {Z s : State} {a0 args : Array Value} (hZ : Z.Warmed39 s.vm) (hw : ∀ d ∈ words, d.before a0 Z = true) : ∀ d ∈ words, d.before args s = true := fun d hd => by
  have q := hw d hd
  have t : ∀ d ∈ words, d = .arrayClass .byte ∨ (d.onTables && d.keepsFace) = true := by decide +kernel
  rcases t d hd with rfl | t
  · exact RoadKit.mvA hZ q
  · exact RoadKit.mv hZ q t
/-- WHAT COMES BACK, over the tables of the start Z: h the heap at the call, h' behind it -/
def Q (Z : State) (x : Addr) (A : Cell) (h : Heap) (v : Option Value) (h' : Heap) (L : List Loc) : Prop := v = none ∧ (∀ y ∈ L, y.base = x) ∧ RoadKit.Keep h h' [x] ∧ h'.size = h.size + 1 ∧ RoadKit.Exa Z h' x ST ∧ RoadKit.Fld Z h' x ST "value" "[B" (.ref h.size) ∧ RoadKit.Fld Z h' x ST "coder" "B" (.int 0) ∧
  (∃ V : Cell, RoadKit.Arr Z h' h.size V .byte ∧ V.vm = .none ∧ Z.vm.findClass "[B" = some V.cls ∧ V.slots.size = A.slots.size ∧ ∀ j, j < A.slots.size → V.slots[j]? = some (.int (lo8 (cv A j)))) ∧
  ∀ (O n d : String) (w : Value), RoadKit.Fld Z h x O n d w → RoadKit.slotOf Z O n d ≠ RoadKit.slotOf Z ST "value" "[B" → RoadKit.slotOf Z O n d ≠ RoadKit.slotOf Z ST "coder" "B" → RoadKit.Fld Z h' x O n d w
/-- **new String(chars) AT A CALL, IN THE ROAD'S FORM**: for specialBack behind newO: x the fresh String, b the char[] with the cell A -/
theorem back {p : Program} {l : Launch} {e : Env} {R : Room} {s : State} {args : Array Value} {below : List Frame} {len W : Nat} {Z : State} {a0 : Array Value} {h : Heap} (hZ : Z.Warmed39 s.vm) (hw : ∀ d ∈ words, d.before a0 Z = true) {kI : Nat} (wi : (Jvm.Cond.instantiable ST kI).before a0 Z = true)
    {x b : Addr} {A : Cell} {z : Int32} {v0 c0 : Value} (E : RoadKit.Exa Z h x ST) (V : RoadKit.Fld Z h x ST "value" "[B" v0) (C : RoadKit.Fld Z h x ST "coder" "B" c0) (K : RoadKit.Arr Z h b A .char) (hty : Typed .char A) (S : RoadKit.Sta Z h ST "COMPACT_STRINGS" "Z" (.int z)) (hz : ¬ z = 0)
    (l0 : 0 < A.slots.size) (l2 : A.slots.size ≤ 536870912) (hp : ∀ i, i < A.slots.size → ¬ 255 < cv A i) (hfr : 4 ≤ R.frames) (hlo : W + 65 ≤ R.locals) :
    Back l R p e below s args New1.yN len W (fun P a => a = #[.ref x, .ref b] ∧ P.U.heap = h ∧ P.cells + 1 ≤ R.cells ∧ P.slots + A.slots.size ≤ R.slots)
      (fun P _ v B => ∃ L, Q Z x A h v B.U.heap L ∧ B.locs = P.locs ++ L ∧ B.cells = P.cells + 1 ∧ B.slots = P.slots + A.slots.size) := by
  intro m meth c P g ig mk a X hg hsize hdg hW hn hp'
  obtain ⟨rfl, rfl, r1, r2⟩ := hp'
  have al : Z.vm.Alike P.U.vm := hZ.alike.trans X.warmed.alike
  obtain ⟨D, cfV, kV, iV, fV, hD, gV, stV, knV, obV, asV, slV⟩ := id V
  obtain ⟨D', cfC, kC, iC, fC, hD', gC, stC, -, -, asC, slC⟩ := id C
  cases hD.symm.trans hD'
  obtain ⟨D2, kD, e1, e2, e3, e4, e5⟩ := id E
  cases hD.symm.trans e1
  obtain ⟨c2, k2, i1, i2, i3, -⟩ := Cond.instantiable_spec wi
  cases e2.symm.trans i1
  cases e3.symm.trans i2
  obtain ⟨kU, u1, u2⟩ := al.2.2 _ _ e3
  have hB : Blank ST x D P.U := ⟨hD, ⟨knV, fun q hq => by rw [hq] at obV; cases obV⟩, by rw [al.findClass]; exact e2, kU, u1, by rw [u2]; exact i3, by rw [u2]; exact e5 i3⟩
  have F1 : Found ST "value" "[B" fV P.U := ⟨SBG.found_only al ⟨cfV, kV, iV, gV⟩, stV⟩
  have F2 : Found ST "coder" "B" fC P.U := ⟨SBG.found_only al ⟨cfC, kC, iC, gC⟩, stC⟩
  have hA : Ch b A P.U := ⟨⟨K.1, State.isArrayOf_alike al K.2.1, K.2.2, by omega⟩, hty⟩
  have hS : StaticIs P.U ST "COMPACT_STRINGS" "Z" (.int z) := by
    obtain ⟨cfS, iS, kS, fS, st, cS, t1, t2, t3, t4, t5, t6, t7⟩ := S
    exact StaticIs.there (s := { Z with heap := P.U.heap }) ⟨cfS, iS, kS, fS, st, cS, t1, t2, t3, t4, t5, (fun q => by rw [q] at t6; cases t6), t7⟩ al rfl
  obtain ⟨v, B, X', ⟨⟨hv, E', V', q1, q2, q3, q4, q5, q6, q7, q8, q9, q10, q11⟩, hl, hc, hs⟩, st⟩ := New1.pays x D fV fC b A z (tab_of (moved hZ hw)) hfr hlo m meth c P g ig mk _ X hg hsize hdg hW hn ⟨r1, r2, rfl, hB, F1, F2, hA, hS, hz, l0, l2, hp⟩
  have al' : Z.vm.Alike B.U.vm := hZ.alike.trans X'.warmed.alike
  have hsz : E'.slots.size = D.slots.size := by
    obtain ⟨-, -, -, kB, w1, w2, w3⟩ := q1
    obtain ⟨kB', y1, y2⟩ := al'.2.2 _ _ e3
    rw [q2.2.1] at w1
    cases w1.symm.trans y1
    rw [w3, e5 i3, y2]
  refine ⟨v, B, X', ⟨_, ⟨hv, ?_, ⟨by omega, fun y cy hy hn' => q10 y cy (by simpa using hn') hy, fun y cy hy => ?_⟩, q11, ⟨E', _, q1.1, by rw [q2.2.1]; exact e2, by rw [q2.2.1]; exact e3, by rw [q2.1]; exact obV, fun _ => by rw [hsz]; exact e5 i3⟩,
    ⟨E', cfV, kV, iV, fV, q1.1, gV, stV, by rw [q2.1]; exact knV, by rw [q2.1]; exact obV, by rw [q2.2.1]; exact asV, q3⟩, ⟨E', cfC, kC, iC, fC, q1.1, gC, stC, by rw [q2.1]; exact knV, by rw [q2.1]; exact obV, by rw [q2.2.1]; exact asC, q4⟩,
    ⟨V', ⟨q5.1, State.isArrayOf_alike al'.symm q5.2.1, q5.2.2.1⟩, q6, by rw [← al'.findClass]; exact q7, q8, fun j hj => by have := q9 j hj; rwa [Nat.zero_add] at this⟩, fun O n d w F n1 n2 => ?_⟩, hl, hc, hs⟩, st⟩
  · intro y hy
    simp only [List.mem_cons, List.not_mem_nil, or_false] at hy
    rcases hy with rfl | rfl <;> rfl
  · by_cases q : y = x
    · subst q
      cases hD.symm.trans hy
      exact ⟨E', q1.1, q2.2.1, q2.1, hsz⟩
    · exact ⟨cy, q10 y cy q hy, rfl, rfl, rfl⟩
  · obtain ⟨D3, cf, k, i, f, g1, g2, g3, g4, g5, g6, g7⟩ := F
    cases hD.symm.trans g1
    simp only [RoadKit.slotOf, g2, gV, gC, Option.map_some, Option.getD_some] at n1 n2
    exact ⟨E', cf, k, i, f, q1.1, g2, g3, by rw [q2.1]; exact g4, by rw [q2.1]; exact g5, by rw [q2.2.1]; exact g6, by rw [q2.2.2 f.slot (by simp [n1, n2])]; exact g7⟩
end StrChars.Road
namespace StrChars.Road
open Jvm Sem ClassFile Op Lib Jvm.Stand Jvm.Free Jvm.Free.XT
/-- WHAT COMES BACK, the byte[] as a list of values -/
def QA (Z : State) (x : Addr) (zn : Int32) (cs : List Int32) (h : Heap) (v : Option Value) (h' : Heap) (L : List Loc) : Prop := v = none ∧ (∀ y ∈ L, y.base = x) ∧ RoadKit.Keep h h' [x] ∧ h'.size = h.size + 1 ∧ RoadKit.Exa Z h' x ST ∧ RoadKit.Fld Z h' x ST "value" "[B" (.ref h.size) ∧ RoadKit.Fld Z h' x ST "coder" "B" (.int 0) ∧
  (∃ kb, Z.vm.findClass "[B" = some kb ∧ RoadKit.Arv Z h' h.size kb .byte zn (cs.map fun c => .int (lo8 c)) (.int 0)) ∧
  ∀ (O n d : String) (w : Value), RoadKit.Fld Z h x O n d w → RoadKit.slotOf Z O n d ≠ RoadKit.slotOf Z ST "value" "[B" → RoadKit.slotOf Z O n d ≠ RoadKit.slotOf Z ST "coder" "B" → RoadKit.Fld Z h' x O n d w
/-- **new String(chars) AT A CALL, THE ARRAYS AS LISTS**: the char[] at b holds cs, not empty, no char above 255 -/
theorem backArv {p : Program} {l : Launch} {e : Env} {R : Room} {s : State} {args : Array Value} {below : List Frame} {len W : Nat} {Z : State} {a0 : Array Value} {h : Heap} (hZ : Z.Warmed39 s.vm) (hw : ∀ d ∈ words, d.before a0 Z = true) {kI : Nat} (wi : (Jvm.Cond.instantiable ST kI).before a0 Z = true)
    {x b : Addr} {k : ClassId} {zn z : Int32} {cs : List Int32} {dv v0 c0 : Value} (E : RoadKit.Exa Z h x ST) (V : RoadKit.Fld Z h x ST "value" "[B" v0) (C : RoadKit.Fld Z h x ST "coder" "B" c0) (K : RoadKit.Arv Z h b k .char zn (cs.map Value.int) dv) (S : RoadKit.Sta Z h ST "COMPACT_STRINGS" "Z" (.int z)) (hz : ¬ z = 0)
    (hlen : zn.toNatClampNeg = cs.length) (h0 : 0 < cs.length) (hbig : cs.length ≤ 536870912) (hall : ∀ c ∈ cs, ¬ 255 < c) (hfr : 4 ≤ R.frames) (hlo : W + 65 ≤ R.locals) :
    Back l R p e below s args New1.yN len W (fun P a => a = #[.ref x, .ref b] ∧ P.U.heap = h ∧ P.cells + 1 ≤ R.cells ∧ P.slots + cs.length ≤ R.slots)
      (fun P _ v B => ∃ L, QA Z x zn cs h v B.U.heap L ∧ B.locs = P.locs ++ L ∧ B.cells = P.cells + 1 ∧ B.slots = P.slots + cs.length) := by
  obtain ⟨A, K1, K2, K3, K4, K5, K6⟩ := K
  have e : A.slots.size = cs.length := K3.trans hlen
  have hat : ∀ (i : Nat) (hi : i < cs.length), A.slots[i]? = some (.int cs[i]) := fun i hi => by rw [K5 i (by omega)]; simp [List.getD_eq_getElem?_getD, hi]
  have hcv : ∀ (i : Nat) (hi : i < cs.length), cv A i = cs[i] := fun i hi => by unfold cv; rw [hat i hi]
  have hty : Typed .char A := fun i v hv => by
    have hi : i < A.slots.size := (Array.getElem?_eq_some_iff.mp hv).1
    have q := K5 i hi
    rw [hv] at q
    rw [Option.some.inj q]
    exact K6 i hi
  refine Back.mono (back hZ hw wi E V C K1 hty S hz (by omega) (by omega) (fun i hi => by rw [hcv i (by omega)]; exact hall _ (List.getElem_mem _)) hfr hlo) (fun P a hp => ⟨hp.1, hp.2.1, hp.2.2.1, by rw [e]; exact hp.2.2.2⟩) (fun P a v B hp hq => ?_)
  obtain ⟨L, ⟨q1, q2, q3, q4, q5, q6, q7, ⟨V', v1, v2, v3, v4, v5⟩, q9⟩, hl, hc, hs⟩ := hq
  refine ⟨L, ⟨q1, q2, q3, q4, q5, q6, q7, ⟨V'.cls, v3, V', v1, rfl, by rw [v4, e, hlen], K4, fun i hi => ?_, fun i hi => ?_⟩, q9⟩, hl, hc, by rw [hs, e]⟩
  · have hi' : i < cs.length := by omega
    rw [v5 i (by omega), hcv i hi']; simp [List.getD_eq_getElem?_getD, hi']
  · have hi' : i < cs.length := by omega
    simp only [List.getD_eq_getElem?_getD, List.getElem?_map, List.getElem?_eq_getElem hi', Option.map_some, Option.getD_some]
    exact fits_lo8 _
end StrChars.Road
namespace StrChars.Road
open Jvm Sem ClassFile Op Lib Jvm.Stand Jvm.Free Jvm.Free.XT
/-- WHAT COMES BACK, in the writer's own shape -/
def QV (Z : State) (x : Addr) (N : Int32) (bs : List Int32) (h : Heap) (n0 : Nat) (v : Option Value) (h' : Heap) (L : List Loc) : Prop := v = none ∧ RoadKit.Fr n0 L ∧ RoadKit.Keep h h' [x] ∧ RoadKit.Exa Z h' x ST ∧ RoadKit.Fld Z h' x ST "coder" "B" (.int 0) ∧
  ∃ (t : Addr) (kb : ClassId), n0 ≤ t ∧ h.size ≤ t ∧ ¬ t = x ∧ RoadKit.Fld Z h' x ST "value" "[B" (.ref t) ∧ RoadKit.Arv Z h' t kb .byte N (bs.map Value.int) (.int 0)
/-- **new String(chars) AT A CALL, FOR THE WRITER**: a char[] of n known ints, each 0 to 255 -/
theorem backV {p : Program} {l : Launch} {e : Env} {R : Room} {s : State} {args : Array Value} {below : List Frame} {len W : Nat} {Z : State} {a0 : Array Value} {h : Heap} (hZ : Z.Warmed39 s.vm) (hw : ∀ d ∈ words, d.before a0 Z = true) {kI : Nat} (wi : (Jvm.Cond.instantiable ST kI).before a0 Z = true)
    {x b : Addr} {kC : ClassId} {cs bs : List Int32} {d v0 c0 : Value} {z N : Int32} {n n0 : Nat} (hx0 : n0 ≤ x) (hh0 : n0 ≤ h.size) (E : RoadKit.Exa Z h x ST) (V : RoadKit.Fld Z h x ST "value" "[B" v0) (C : RoadKit.Fld Z h x ST "coder" "B" c0) (K : RoadKit.Arv Z h b kC .char N (cs.map Value.int) d) (S : RoadKit.Sta Z h ST "COMPACT_STRINGS" "Z" (.int z)) (hz : ¬ z = 0)
    (hn : cs.length = n) (hN : N = Int32.ofNat n) (l0 : 0 < n) (l2 : n ≤ 4000) (hp : ∀ c ∈ cs, ¬ c < 0 ∧ ¬ (255 : Int32) < c) (hb : bs = cs.map (fun c => c.toInt8.toInt32)) (hfr : 4 ≤ R.frames) (hlo : W + 65 ≤ R.locals) :
    Back l R p e below s args (⟨"java/lang/String", "<init>", "([C)V"⟩ : MethodName) len W (fun P a => a = #[.ref x, .ref b] ∧ P.U.heap = h ∧ P.cells + 1 ≤ R.cells ∧ P.slots + n ≤ R.slots)
      (fun P _ v B => ∃ L, QV Z x N bs h n0 v B.U.heap L ∧ B.locs = P.locs ++ L ∧ B.cells = P.cells + 1 ∧ B.slots = P.slots + n) := by
  subst hn hN hb
  refine Back.mono (backArv hZ hw wi E V C K S hz (n32 (by omega)) l0 (by omega) (fun c hc => (hp c hc).2) hfr hlo) (fun P a hp => hp) (fun P a v B hp hq => ?_)
  obtain ⟨L, ⟨q1, q2, q3, q4, q5, q6, q7, ⟨kb, v1, v2⟩, q9⟩, hl, hc, hs⟩ := hq
  exact ⟨L, ⟨q1, fun y hy => by rw [q2 y hy]; exact hx0, q3, q5, q7, h.size, kb, hh0, Nat.le_refl _, Nat.ne_of_gt E.lt, q6, by rw [List.map_map]; exact v2⟩, hl, hc, hs⟩
end StrChars.Road
namespace StrChars
open Jvm Sem ClassFile Op Lib Jvm.Stand Jvm.Free.XT Jvm.Free.ALB Jvm.Free.JM Jvm.Free
open Jvm.Lib.Cold (StaticIs)
def hi8 (x : Int32) : Int32 := lo8 (x >>> ((8 : Int32) &&& 31))
/-- what StringUTF16.getChar makes of two bytes -/
def pairCh (u v : Int32) : Int32 := (((u &&& 255) <<< ((0 : Int32) &&& 31)) ||| ((v &&& 255) <<< ((8 : Int32) &&& 31))).toUInt32.toUInt16.toUInt32.toInt32
theorem lo8_and (x : Int32) : (lo8 x &&& 255).toBitVec.toNat = x.toBitVec.toNat % 256 := by
  have h : (lo8 x).toBitVec = (x.toBitVec.signExtend 8).signExtend 32 := by rw [lo8, Int8.toBitVec_toInt32, Int32.toBitVec_toInt8]
  rw [Int32.toBitVec_and, BitVec.toNat_and, h]
  have e : ((x.toBitVec.signExtend 8).signExtend 32).toNat % 256 = x.toBitVec.toNat % 256 := by
    rw [BitVec.toNat_signExtend]
    have hlt := x.toBitVec.isLt
    simp only [BitVec.toNat_setWidth, BitVec.toNat_signExtend]
    split <;> split <;> omega
  rw [← e]
  exact Nat.and_two_pow_sub_one_eq_mod _ 8
theorem pair_says {c : Int32} (h0 : ¬ c < 0) (h1 : ¬ 65535 < c) : pairCh (lo8 c) (hi8 c) = c := by
  rw [Int32.lt_iff_toInt_lt] at h0 h1
  have e0 : (0 : Int32).toInt = 0 := rfl
  have e1 : (65535 : Int32).toInt = 65535 := rfl
  have hc : c.toInt = c.toBitVec.toNat := by
    have := c.toBitVec.isLt
    have e : c.toInt = c.toBitVec.toInt := rfl
    rw [e] at h0 h1
    rw [e]
    rw [BitVec.toInt_eq_toNat_cond] at h0 h1 ⊢
    split at h0 <;> split <;> omega
  have hn : c.toBitVec.toNat < 65536 := by omega
  have a1 := lo8_and c
  have a2 : (hi8 c &&& 255).toBitVec.toNat = c.toBitVec.toNat / 256 := by
    rw [hi8, lo8_and]
    have e : ((8 : Int32) &&& 31) = 8 := by decide
    rw [e, Int32.toBitVec_shiftRight]
    have e2 : ((8 : Int32).toBitVec.smod 32) = 8#32 := by decide
    rw [e2, BitVec.sshiftRight_eq', BitVec.toNat_sshiftRight_of_msb_false (by rw [BitVec.msb_eq_false_iff_two_mul_lt]; omega)]
    show c.toBitVec.toNat >>> 8 % 256 = _
    rw [Nat.shiftRight_eq_div_pow]
    omega
  unfold pairCh
  apply Int32.toBitVec_inj.mp
  apply BitVec.eq_of_toNat_eq
  have f0 : ((0 : Int32) &&& 31) = 0 := by decide
  have f8 : ((8 : Int32) &&& 31) = 8 := by decide
  rw [f0, f8]
  have g : (((lo8 c &&& 255) <<< (0 : Int32)) ||| ((hi8 c &&& 255) <<< (8 : Int32))).toBitVec.toNat = c.toBitVec.toNat := by
    rw [Int32.toBitVec_or, Int32.toBitVec_shiftLeft, Int32.toBitVec_shiftLeft]
    have s0 : ((0 : Int32).toBitVec.smod 32) = 0#32 := by decide
    have s8 : ((8 : Int32).toBitVec.smod 32) = 8#32 := by decide
    rw [s0, s8, BitVec.toNat_or]
    simp only [BitVec.shiftLeft_eq', BitVec.toNat_shiftLeft, a1, a2]
    show (c.toBitVec.toNat % 256) <<< 0 % 2 ^ 32 ||| (c.toBitVec.toNat / 256) <<< 8 % 2 ^ 32 = _
    rw [Nat.shiftLeft_zero, Nat.mod_eq_of_lt (show c.toBitVec.toNat % 256 < 2 ^ 32 by omega), Nat.mod_eq_of_lt (show (c.toBitVec.toNat / 256) <<< 8 < 2 ^ 32 by rw [Nat.shiftLeft_eq]; omega), Nat.or_comm, ← Nat.shiftLeft_add_eq_or_of_lt (by omega), Nat.shiftLeft_eq]
    omega
  show BitVec.toNat (((((lo8 c &&& 255) <<< (0 : Int32)) ||| ((hi8 c &&& 255) <<< (8 : Int32))).toBitVec.setWidth 16).setWidth 32) = _
  rw [BitVec.toNat_setWidth, BitVec.toNat_setWidth, g]
  omega
end StrChars
namespace StrChars
open Jvm Sem ClassFile Op Lib Jvm.Stand Jvm.Free.XT Jvm.Free.ALB Jvm.Free.JM Jvm.Free
open Jvm.Lib.Cold (StaticIs)
/-- the array's cell V codes the n chars f 0 .. f (n - 1) by the coder cd, as the JDK does: coder 1 just where some char is above 255 -/
def Cod (cd : Int32) (n : Nat) (f : Nat → Int32) (V : Cell) : Prop := (cd = 0 ∧ V.slots.size = n ∧ ∀ j, j < n → V.slots[j]? = some (.int (lo8 (f j))) ∧ ¬ 255 < f j) ∨ (cd = 1 ∧ V.slots.size = 2 * n ∧ (∀ j, j < n → V.slots[2 * j]? = some (.int (lo8 (f j))) ∧ V.slots[2 * j + 1]? = some (.int (hi8 (f j)))) ∧ ∃ j, j < n ∧ 255 < f j)
/-- **x is a String of the n chars f 0 .. f (n - 1)**, Latin-1 or UTF-16; its array at t has the cell V -/
def Txt (x t : Addr) (V : Cell) (cd : Int32) (n : Nat) (f : Nat → Int32) (U : State) : Prop := Exact "java/lang/String" x U ∧ Has x "java/lang/String" "value" "[B" (.ref t) U ∧ Has x "java/lang/String" "coder" "B" (.int cd) U ∧ XT.Arr .byte t V U ∧ Cod cd n f V ∧ ∀ j, j < n → ¬ f j < 0 ∧ ¬ 65535 < f j
theorem Txt.mv {x t : Addr} {V : Cell} {cd : Int32} {n : Nat} {f : Nat → Int32} {U U' : State} (h : Txt x t V cd n f U) (hal : U.vm.Alike U'.vm) (hh : U'.heap = U.heap) : Txt x t V cd n f U' := ⟨h.1.mv hal hh, h.2.1.mv hal hh, h.2.2.1.mv hal hh, h.2.2.2.1.mv hal hh, h.2.2.2.2⟩
end StrChars
namespace StrChars.Road
open Jvm Sem ClassFile Op Lib Jvm.Stand Jvm.Free Jvm.Free.XT
open Jvm.Lib.Cold (StaticIs)
theorem consq {a : Array Value} {s : State} {c : Jvm.Cond} {L : List Jvm.Cond} (h0 : c.before a s = true) (h : ∀ w ∈ L, w.before a s = true) : ∀ w ∈ c :: L, w.before a s = true := fun w hw => (List.mem_cons.mp hw).elim (fun e => e ▸ h0) (h w)
/-- the bytes of the chars cs, low before high -/
def wideBytes : List Int32 → List Value
  | [] => []
  | c :: cs => .int (lo8 c) :: .int (hi8 c) :: wideBytes cs
theorem wide_lo (d : Value) : ∀ (cs : List Int32) (j : Nat), j < cs.length → (wideBytes cs).getD (2 * j) d = .int (lo8 (cs.getD j 0))
  | [], j, h => absurd h (Nat.not_lt_zero j)
  | c :: cs, 0, _ => rfl
  | c :: cs, j + 1, h => by
    have q := wide_lo d cs j (by simpa using h)
    rw [show 2 * (j + 1) = 2 * j + 1 + 1 from by omega]
    simpa [wideBytes] using q
theorem wide_hi (d : Value) : ∀ (cs : List Int32) (j : Nat), j < cs.length → (wideBytes cs).getD (2 * j + 1) d = .int (hi8 (cs.getD j 0))
  | [], j, h => absurd h (Nat.not_lt_zero j)
  | c :: cs, 0, _ => rfl
  | c :: cs, j + 1, h => by
    have q := wide_hi d cs j (by simpa using h)
    rw [show 2 * (j + 1) + 1 = 2 * j + 1 + 1 + 1 from by omega]
    simpa [wideBytes] using q
theorem low_at (d : Value) (cs : List Int32) (j : Nat) (h : j < cs.length) : (cs.map fun c => Value.int (lo8 c)).getD j d = .int (lo8 (cs.getD j 0)) := by
  simp [List.getD_eq_getElem?_getD, h]
/-- an array of N2 bytes vs codes the chars cs by the coder cd -/
def CodA (cs : List Int32) (cd N2 : Int32) (vs : List Value) : Prop := (cd = 0 ∧ N2 = Int32.ofNat cs.length ∧ vs = (cs.map fun c => Value.int (lo8 c)) ∧ ∀ c ∈ cs, ¬ 255 < c) ∨ (cd = 1 ∧ N2 = Int32.ofNat (2 * cs.length) ∧ vs = wideBytes cs ∧ ∃ c ∈ cs, 255 < c)
theorem CodA.cod {cs : List Int32} {cd N2 : Int32} {vs : List Value} {V : Cell} (h : CodA cs cd N2 vs) (hn : 2 * cs.length < 2 ^ 31) (hs : V.slots.size = N2.toNatClampNeg) (hv : RoadKit.Has V vs (.int 0)) : Cod cd cs.length (fun j => cs.getD j 0) V := by
  rcases h with ⟨rfl, rfl, rfl, h⟩ | ⟨rfl, rfl, rfl, c, hc, hw⟩
  · rw [n32 (by omega)] at hs
    exact Or.inl ⟨rfl, hs, fun j hj => ⟨by rw [hv j (by omega), low_at _ _ _ hj], by
      have e : cs.getD j 0 = cs[j] := by simp [List.getD_eq_getElem?_getD, hj]
      show ¬ 255 < cs.getD j 0
      rw [e]; exact h _ (List.getElem_mem _)⟩⟩
  · rw [n32 (by omega)] at hs
    obtain ⟨j, hj, rfl⟩ := List.getElem_of_mem hc
    exact Or.inr ⟨rfl, hs, fun j hj => ⟨by rw [hv _ (by omega), wide_lo _ _ _ hj], by rw [hv _ (by omega), wide_hi _ _ _ hj]⟩, j, hj, by
      have e : cs.getD j 0 = cs[j] := by simp [List.getD_eq_getElem?_getD, hj]
      show 255 < cs.getD j 0
      rw [e]; exact hw⟩
/-- an object of exactly java/lang/String, its two fields found: as the laws ask it -/
theorem strObj {Z U : State} {a0 : Array Value} {kI : Nat} (wi : (Jvm.Cond.instantiable ST kI).before a0 Z = true) (al : Z.vm.Alike U.vm) {x : Addr} {v0 c0 : Value} (E : RoadKit.Exa Z U.heap x ST) (V : RoadKit.Fld Z U.heap x ST "value" "[B" v0) (C : RoadKit.Fld Z U.heap x ST "coder" "B" c0) :
    ∃ (D : Cell) (fV fC : Field), Blank ST x D U ∧ Found ST "value" "[B" fV U ∧ Found ST "coder" "B" fC U ∧ D.slots[fV.slot]? = some v0 ∧ D.slots[fC.slot]? = some c0 ∧ RoadKit.slotOf Z ST "value" "[B" = fV.slot ∧ RoadKit.slotOf Z ST "coder" "B" = fC.slot := by
  obtain ⟨D, cfV, kV, iV, fV, hD, gV, stV, knV, obV, asV, slV⟩ := V
  obtain ⟨D', cfC, kC, iC, fC, hD', gC, stC, -, -, asC, slC⟩ := C
  cases hD.symm.trans hD'
  obtain ⟨D2, kD, e1, e2, e3, e4, e5⟩ := E
  cases hD.symm.trans e1
  obtain ⟨c2, k2, i1, i2, i3, -⟩ := Cond.instantiable_spec wi
  cases e2.symm.trans i1
  cases e3.symm.trans i2
  obtain ⟨kU, u1, u2⟩ := al.2.2 _ _ e3
  exact ⟨D, fV, fC, ⟨hD, ⟨knV, fun q hq => by rw [hq] at obV; cases obV⟩, by rw [al.findClass]; exact e2, kU, u1, by rw [u2]; exact i3, by rw [u2]; exact e5 i3⟩, ⟨SBG.found_only al ⟨cfV, kV, iV, gV⟩, stV⟩, ⟨SBG.found_only al ⟨cfC, kC, iC, gC⟩, stC⟩, slV, slC, by simp [RoadKit.slotOf, gV], by simp [RoadKit.slotOf, gC]⟩
theorem sta_is {Z U : State} (al : Z.vm.Alike U.vm) {C n d : String} {v : Value} (S : RoadKit.Sta Z U.heap C n d v) : StaticIs U C n d v := by
  obtain ⟨cfS, iS, kS, fS, st, cS, t1, t2, t3, t4, t5, t6, t7⟩ := S
  exact StaticIs.there (s := { Z with heap := U.heap }) ⟨cfS, iS, kS, fS, st, cS, t1, t2, t3, t4, t5, (fun q => by rw [q] at t6; cases t6), t7⟩ al rfl
end StrChars.Road
namespace StrChars
open Jvm Sem ClassFile Op Lib Jvm.Stand Jvm.Free.XT Jvm.Free.ALB Jvm.Free.JM Jvm.Free
open Jvm.Lib.Cold (StaticIs)
namespace Emp
def yN : MethodName := ⟨"java/lang/String", "isEmpty", "()Z"⟩
abbrev yB : ByteArray := jdk_42_method_55_code
theorem d0 : decode yB 0 = .ok (.aload_n 0, 1) := by decide +kernel
theorem d1 : decode yB 1 = .ok (.getfield 9, 3) := by decide +kernel
theorem d4 : decode yB 4 = .ok (.arraylength, 1) := by decide +kernel
theorem d5 : decode yB 5 = .ok (.ifCond (.ne) 7, 3) := by decide +kernel
theorem d8 : decode yB 8 = .ok (.iconst 1, 1) := by decide +kernel
theorem d9 : decode yB 9 = .ok (.goto 4, 3) := by decide +kernel
theorem d12 : decode yB 12 = .ok (.iconst 0, 1) := by decide +kernel
theorem d13 : decode yB 13 = .ok (.ireturn, 1) := by decide +kernel
def site : List Cond := [.fieldLink "java/lang/String" 9 "java/lang/String" "value" "[B"]
def tab : Cond := tabOf yN yB 1 (some .boolean) site
def P (x t : Addr) (V : Cell) (cd : Int32) (n : Nat) (f : Nat → Int32) (args : Array Value) (s : State) : Prop := args = #[.ref x] ∧ Txt x t V cd n f s
def E (n : Nat) (r : Option Value) (s u : State) : Prop := XT.PureE (some (.int (if n = 0 then 1 else 0))) r s u
/-- isEmpty() of a String of n chars -/
theorem law (l : Launch) (x t : Addr) (V : Cell) (cd : Int32) (n : Nat) (f : Nat → Int32) : Law l yN 1 0 0 0 yB 1 (some .boolean) site (P x t V cd n f) (E n) [] 0 0 := by
  refine Law.of_walk (plainFor_of_name (by decide +kernel)) (by decide +kernel) (by decide +kernel) (by decide) (fun _ _ h => by rw [h.1]; rfl) (fun _ U U' hal hh h => ⟨h.1, h.2.mv hal hh⟩) (fun r U U' V V' h1 hal h2 h => XT.PureE.mv r U U' V V' h1 hal h2 h) ?_
  intro p e s m args below meth c s₁ X0 hexec hbytes hml hret hlk hnm hown hh0 W hP
  obtain ⟨rfl, hx⟩ := hP
  have v31 := hx.2.2.2.1.2.2.2
  have c1 : Steps p.tables e below (s₁.setTop (entryFrame m #[.ref x] 1)) (s₁.setTop (mkF m 1 #[.val (.ref x)] [.ref x])) := Steps.trans (entry rfl) (by
    show Steps p.tables e below (s₁.setTop (mkF m 0 #[.val (.ref x)] [])) _
    refine XS.aloadN X0.here hexec rfl (hb hbytes d0) rfl rfl ?_
    exact Steps.refl _)
  obtain ⟨T2, X2, q2, st2⟩ := X0.hget hexec hown (wk W (.fieldLink "java/lang/String" 9 "java/lang/String" "value" "[B")) (hx.mv X0.warmed.alike hh0).2.1 (g := (mkF m 1 #[.val (.ref x)] [.ref x])) rfl (rest := []) rfl (hb hbytes d1)
  have hh2 := q2.trans hh0
  have hx2 := hx.mv X2.warmed.alike hh2
  have c3 : Steps p.tables e below (s₁.setTop (entryFrame m #[.ref x] 1)) (T2.setTop (mkF m 5 #[.val (.ref x)] [.int (Int32.ofNat V.slots.size)])) := (c1.trans (st2 _ (Steps.refl _))).trans (by
    refine X2.alen hexec hx2.2.2.2.1 rfl rfl (hb hbytes d4) ?_
    exact Steps.refl _)
  have hz : V.slots.size = 0 ↔ n = 0 := by
    rcases hx.2.2.2.2.1 with ⟨-, q, -⟩ | ⟨-, q, -⟩ <;> omega
  by_cases h0 : n = 0
  · have c4 : Steps p.tables e below (s₁.setTop (entryFrame m #[.ref x] 1)) (T2.setTop (mkF m 13 #[.val (.ref x)] [.int 1])) := c3.trans (by
      refine XS.ifNo X2.here hexec rfl (hb hbytes d5) rfl (i0_ne_f (by rw [hz.mpr h0]; rfl)) ?_
      refine iconstV X2.here hexec rfl 1 (hb hbytes d8) (by decide) ?_
      refine XS.goto X2.here hexec rfl (pc0 := 9) rfl (hb hbytes d9) (by decide) rfl ?_
      exact Steps.refl _)
    exact ⟨T2, some (.int 1), _, _, _, X2, rfl, rfl, rfl, (fun h => by cases h), ⟨by rw [if_pos h0], hh2⟩, fun fs hl => c4.trans (X2.ireturnOut hexec hret rfl (Or.inr (Or.inl rfl)) (hb hbytes d13) hl)⟩
  · have c4 : Steps p.tables e below (s₁.setTop (entryFrame m #[.ref x] 1)) (T2.setTop (mkF m 13 #[.val (.ref x)] [.int 0])) := c3.trans (by
      refine XS.ifYes X2.here hexec rfl (pc0 := 5) rfl (hb hbytes d5) rfl (i0_ne_t (nz32 v31 (by omega))) (by decide) rfl ?_
      refine iconstV X2.here hexec rfl 0 (hb hbytes d12) (by decide) ?_
      exact Steps.refl _)
    exact ⟨T2, some (.int 0), _, _, _, X2, rfl, rfl, rfl, (fun h => by cases h), ⟨by rw [if_neg h0], hh2⟩, fun fs hl => c4.trans (X2.ireturnOut hexec hret rfl (Or.inr (Or.inl rfl)) (hb hbytes d13) hl)⟩
theorem pays {l : Launch} {R : Room} {p : Program} {e : Env} {below : List Frame} {s : State} {sargs : Array Value} {len W : Nat} (x t : Addr) (V : Cell) (cd : Int32) (n : Nat) (f : Nat → Int32) (htab : tab.before sargs s = true) (hfr : 1 ≤ R.frames) (hlo : W + 12 ≤ R.locals) :
    Back l R p e below s sargs yN len W (fun A₁ a₁ => A₁.cells + 0 ≤ R.cells ∧ A₁.slots + 0 ≤ R.slots ∧ P x t V cd n f a₁ A₁.U) (fun A₁ _ v₁ B₁ => E n v₁ A₁.U B₁.U ∧ B₁.locs = A₁.locs ++ [] ∧ B₁.cells = A₁.cells + 0 ∧ B₁.slots = A₁.slots + 0) :=
  (law l x t V cd n f).pays htab hfr (by omega)
end Emp
/-- what place i of a byte[]'s cell holds -/
def yv (A : Cell) (i : Nat) : Int32 := match A.slots[i]? with | some (.int x) => x | _ => 0
theorem yv_get {a : Addr} {A : Cell} {U : State} (h : XT.Arr .byte a A U) (ht : Typed .byte A) {i : Nat} (hi : i < A.slots.size) : A.slots[i]? = some (.int (yv A i)) := by
  have e := Array.getElem?_eq_getElem hi
  have f := ht i _ e
  unfold yv; rw [e]
  generalize A.slots[i] = v at f
  cases v <;> simp [fits] at f ⊢
/-- the two arrays are equal, place for place -/
def EqC (A B : Cell) : Prop := A.slots.size = B.slots.size ∧ ∀ i, i < A.slots.size → yv A i = yv B i
/-- a boolean that says whether p -/
def Says01 (q : Prop) (r : Option Value) (s u : State) : Prop := ∃ v : Int32, r = some (.int v) ∧ u.heap = s.heap ∧ ((v = 1 ∧ q) ∨ (v = 0 ∧ ¬ q))
theorem Says01.mv {q : Prop} : ∀ r (U U' V V' : State), U'.heap = U.heap → V.vm.Alike V'.vm → V'.heap = V.heap → Says01 q r U V → Says01 q r U' V' :=
  fun r U U' V V' h1 _ h2 ⟨v, a, b, c⟩ => ⟨v, a, by rw [h1, h2]; exact b, c⟩
namespace LEq
def yN : MethodName := ⟨"java/lang/StringLatin1", "equals", "([B[B)Z"⟩
abbrev yB : ByteArray := jdk_43_method_13_code
theorem d0 : decode yB 0 = .ok (.aload_n 0, 1) := by decide +kernel
theorem d1 : decode yB 1 = .ok (.arraylength, 1) := by decide +kernel
theorem d2 : decode yB 2 = .ok (.aload_n 1, 1) := by decide +kernel
theorem d3 : decode yB 3 = .ok (.arraylength, 1) := by decide +kernel
theorem d4 : decode yB 4 = .ok (.if_icmp (.ne) 30, 3) := by decide +kernel
theorem d7 : decode yB 7 = .ok (.iconst 0, 1) := by decide +kernel
theorem d8 : decode yB 8 = .ok (.istore_n 2, 1) := by decide +kernel
theorem d9 : decode yB 9 = .ok (.iload_n 2, 1) := by decide +kernel
theorem d10 : decode yB 10 = .ok (.aload_n 0, 1) := by decide +kernel
theorem d11 : decode yB 11 = .ok (.arraylength, 1) := by decide +kernel
theorem d12 : decode yB 12 = .ok (.if_icmp (.ge) 20, 3) := by decide +kernel
theorem d15 : decode yB 15 = .ok (.aload_n 0, 1) := by decide +kernel
theorem d16 : decode yB 16 = .ok (.iload_n 2, 1) := by decide +kernel
theorem d17 : decode yB 17 = .ok (.baload, 1) := by decide +kernel
theorem d18 : decode yB 18 = .ok (.aload_n 1, 1) := by decide +kernel
theorem d19 : decode yB 19 = .ok (.iload_n 2, 1) := by decide +kernel
theorem d20 : decode yB 20 = .ok (.baload, 1) := by decide +kernel
theorem d21 : decode yB 21 = .ok (.if_icmp (.eq) 5, 3) := by decide +kernel
theorem d24 : decode yB 24 = .ok (.iconst 0, 1) := by decide +kernel
theorem d25 : decode yB 25 = .ok (.ireturn, 1) := by decide +kernel
theorem d26 : decode yB 26 = .ok (.iinc 2 1, 3) := by decide +kernel
theorem d29 : decode yB 29 = .ok (.goto (-20), 3) := by decide +kernel
theorem d32 : decode yB 32 = .ok (.iconst 1, 1) := by decide +kernel
theorem d33 : decode yB 33 = .ok (.ireturn, 1) := by decide +kernel
theorem d34 : decode yB 34 = .ok (.iconst 0, 1) := by decide +kernel
theorem d35 : decode yB 35 = .ok (.ireturn, 1) := by decide +kernel
def site : List Cond := []
def tab : Cond := tabOf yN yB 3 (some .boolean) site
def P (a : Addr) (A : Cell) (b : Addr) (B : Cell) (args : Array Value) (s : State) : Prop := args = #[.ref a, .ref b] ∧ XT.Arr .byte a A s ∧ Typed .byte A ∧ XT.Arr .byte b B s ∧ Typed .byte B
/-- whether two byte[] are equal, place for place -/
theorem law (l : Launch) (a : Addr) (A : Cell) (b : Addr) (B : Cell) : Law l yN 2 2 0 0 yB 3 (some .boolean) site (P a A b B) (Says01 (EqC A B)) [] 0 0 := by
  refine Law.of_walk (plainFor_of_name (by decide +kernel)) (by decide +kernel) (by decide +kernel) (by decide) (fun _ _ h => by rw [h.1]; rfl) (fun _ U U' hal hh h => ⟨h.1, h.2.1.mv hal hh, h.2.2.1, h.2.2.2.1.mv hal hh, h.2.2.2.2⟩) (fun r U U' V V' h1 hal h2 h => Says01.mv r U U' V V' h1 hal h2 h) ?_
  intro p e s m args below meth c s₁ X0 hexec hbytes hml hret hlk hnm hown hh0 W hP
  obtain ⟨rfl, hA, tA, hB, tB⟩ := hP
  have a31 := hA.2.2.2
  have b31 := hB.2.2.2
  have hA0 := hA.mv X0.warmed.alike hh0
  have hB0 := hB.mv X0.warmed.alike hh0
  have c1 : Steps p.tables e below (s₁.setTop (entryFrame m #[.ref a, .ref b] 3)) (s₁.setTop (mkF m 0 #[.val (.ref a), .val (.ref b), .unset] [])) := entry rfl
  have c2 : Steps p.tables e below (s₁.setTop (entryFrame m #[.ref a, .ref b] 3)) (s₁.setTop (mkF m 4 #[.val (.ref a), .val (.ref b), .unset] [.int (Int32.ofNat B.slots.size), .int (Int32.ofNat A.slots.size)])) := c1.trans (by
    refine XS.aloadN X0.here hexec rfl (hb hbytes d0) rfl rfl ?_
    refine X0.alen hexec hA0 rfl rfl (hb hbytes d1) ?_
    refine XS.aloadN X0.here hexec rfl (hb hbytes d2) rfl rfl ?_
    refine X0.alen hexec hB0 rfl rfl (hb hbytes d3) ?_
    exact Steps.refl _)
  by_cases hs : A.slots.size = B.slots.size
  · have c3 : Steps p.tables e below (s₁.setTop (entryFrame m #[.ref a, .ref b] 3)) (s₁.setTop (mkF m 9 #[.val (.ref a), .val (.ref b), .val (.int 0)] [])) := c2.trans (by
      refine XS.icmpNo X0.here hexec rfl (hb hbytes d4) rfl (ii_ne_f (by rw [hs])) ?_
      refine iconstV X0.here hexec rfl 0 (hb hbytes d7) (by decide) ?_
      refine XS.istoreN X0.here hexec rfl (hb hbytes d8) rfl rfl ?_
      exact Steps.refl _)
    have loop : ∀ (r i : Nat), i + r = A.slots.size → (∀ j, j < i → yv A j = yv B j) → Steps p.tables e below (s₁.setTop (entryFrame m #[.ref a, .ref b] 3)) (s₁.setTop (mkF m 9 #[.val (.ref a), .val (.ref b), .val (.int (Int32.ofNat i))] [])) → ∃ (pc : Nat) (Ls : Array Slot) (v : Int32), (pc = 25 ∨ pc = 33) ∧ ((v = 1 ∧ EqC A B) ∨ (v = 0 ∧ ¬ EqC A B)) ∧ Steps p.tables e below (s₁.setTop (entryFrame m #[.ref a, .ref b] 3)) (s₁.setTop (mkF m pc Ls [.int v])) := by
      intro r
      induction r with
      | zero =>
        intro i hi he cl
        exact ⟨33, _, 1, Or.inr rfl, Or.inl ⟨rfl, hs, fun j hj => he j (by omega)⟩, cl.trans (by
          refine XS.iloadN X0.here hexec rfl (hb hbytes d9) rfl ?_
          refine XS.aloadN X0.here hexec rfl (hb hbytes d10) rfl rfl ?_
          refine X0.alen hexec hA0 rfl rfl (hb hbytes d11) ?_
          refine XS.icmpYes X0.here hexec rfl (pc0 := 12) rfl (hb hbytes d12) rfl (ii_ge_t (nlt32 (by omega) (by omega))) (by decide) rfl ?_
          refine iconstV X0.here hexec rfl 1 (hb hbytes d32) (by decide) ?_
          exact Steps.refl _)⟩
      | succ r ih =>
        intro i hi he cl
        have c4 : Steps p.tables e below (s₁.setTop (entryFrame m #[.ref a, .ref b] 3)) (s₁.setTop (mkF m 21 #[.val (.ref a), .val (.ref b), .val (.int (Int32.ofNat i))] [.int (yv B i), .int (yv A i)])) := cl.trans (by
          refine XS.iloadN X0.here hexec rfl (hb hbytes d9) rfl ?_
          refine XS.aloadN X0.here hexec rfl (hb hbytes d10) rfl rfl ?_
          refine X0.alen hexec hA0 rfl rfl (hb hbytes d11) ?_
          refine XS.icmpNo X0.here hexec rfl (hb hbytes d12) rfl (ii_ge_f (lt32 (by omega) (by omega))) ?_
          refine XS.aloadN X0.here hexec rfl (hb hbytes d15) rfl rfl ?_
          refine XS.iloadN X0.here hexec rfl (hb hbytes d16) rfl ?_
          refine X0.aget hexec hA0 rfl (yv_get hA tA (i := i) (by omega)) rfl rfl (hb hbytes d17) ?_
          refine XS.aloadN X0.here hexec rfl (hb hbytes d18) rfl rfl ?_
          refine XS.iloadN X0.here hexec rfl (hb hbytes d19) rfl ?_
          refine X0.aget hexec hB0 rfl (yv_get hB tB (i := i) (by omega)) rfl rfl (hb hbytes d20) ?_
          exact Steps.refl _)
        by_cases hv : yv A i = yv B i
        · have c5 : Steps p.tables e below (s₁.setTop (entryFrame m #[.ref a, .ref b] 3)) (s₁.setTop (mkF m 9 #[.val (.ref a), .val (.ref b), .val (.int (Int32.ofNat i + 1))] [])) := c4.trans (by
            refine XS.icmpYes X0.here hexec rfl (pc0 := 21) rfl (hb hbytes d21) rfl (ii_eq_t hv) (by decide) rfl ?_
            refine iincV X0.here hexec rfl 1 (hb hbytes d26) (by decide) rfl rfl ?_
            refine XS.goto X0.here hexec rfl (pc0 := 29) rfl (hb hbytes d29) (by decide) rfl ?_
            exact Steps.refl _)
          rw [succ32] at c5
          exact ih (i + 1) (by omega) (fun j hj => by
            by_cases e : j = i
            · rw [e]; exact hv
            · exact he j (by omega)) c5
        · exact ⟨25, _, 0, Or.inl rfl, Or.inr ⟨rfl, fun q => hv (q.2 i (by omega))⟩, c4.trans (by
            refine XS.icmpNo X0.here hexec rfl (hb hbytes d21) rfl (ii_eq_f hv) ?_
            refine iconstV X0.here hexec rfl 0 (hb hbytes d24) (by decide) ?_
            exact Steps.refl _)⟩
    obtain ⟨pc, Ls, v, hpc, hv, cz⟩ := loop A.slots.size 0 (by omega) (fun j hj => absurd hj (Nat.not_lt_zero j)) c3
    have nv : narrow .boolean (.int v) = .int v := by rcases hv with ⟨rfl, -⟩ | ⟨rfl, -⟩ <;> rfl
    rcases hpc with rfl | rfl
    · exact ⟨s₁, some (.int v), _, _, _, X0, rfl, rfl, rfl, (fun h => by cases h), ⟨v, rfl, hh0, hv⟩, fun fs hl => cz.trans (X0.ireturnOut hexec hret nv (Or.inr (Or.inl rfl)) (hb hbytes d25) hl)⟩
    · exact ⟨s₁, some (.int v), _, _, _, X0, rfl, rfl, rfl, (fun h => by cases h), ⟨v, rfl, hh0, hv⟩, fun fs hl => cz.trans (X0.ireturnOut hexec hret nv (Or.inr (Or.inl rfl)) (hb hbytes d33) hl)⟩
  · have c3 : Steps p.tables e below (s₁.setTop (entryFrame m #[.ref a, .ref b] 3)) (s₁.setTop (mkF m 35 #[.val (.ref a), .val (.ref b), .unset] [.int 0])) := c2.trans (by
      refine XS.icmpYes X0.here hexec rfl (pc0 := 4) rfl (hb hbytes d4) rfl (ii_ne_t (ne32 a31 b31 hs)) (by decide) rfl ?_
      refine iconstV X0.here hexec rfl 0 (hb hbytes d34) (by decide) ?_
      exact Steps.refl _)
    exact ⟨s₁, some (.int 0), _, _, _, X0, rfl, rfl, rfl, (fun h => by cases h), ⟨0, rfl, hh0, Or.inr ⟨rfl, fun q => hs q.1⟩⟩, fun fs hl => c3.trans (X0.ireturnOut hexec hret rfl (Or.inr (Or.inl rfl)) (hb hbytes d35) hl)⟩
end LEq
theorem Cod.ty {cd : Int32} {n : Nat} {f : Nat → Int32} {V : Cell} (h : Cod cd n f V) : Typed .byte V := fun i v hv => by
  have hi : i < V.slots.size := (Array.getElem?_eq_some_iff.mp hv).1
  rcases h with ⟨-, k1, k2⟩ | ⟨-, k1, k2, -⟩
  · rw [(k2 i (by omega)).1] at hv; cases hv; exact fits_lo8 _
  · rcases Nat.mod_two_eq_zero_or_one i with e | e
    · obtain ⟨j, rfl⟩ : ∃ j, i = 2 * j := ⟨i / 2, by omega⟩
      rw [(k2 j (by omega)).1] at hv; cases hv; exact fits_lo8 _
    · obtain ⟨j, rfl⟩ : ∃ j, i = 2 * j + 1 := ⟨i / 2, by omega⟩
      rw [(k2 j (by omega)).2] at hv; cases hv; exact fits_lo8 _
/-- the same text -/
def SameT (n : Nat) (f : Nat → Int32) (k : Nat) (g : Nat → Int32) : Prop := n = k ∧ ∀ j, j < n → f j = g j
theorem lo8_inj {x y : Int32} (h0 : ¬ x < 0) (h1 : ¬ 255 < x) (k0 : ¬ y < 0) (k1 : ¬ 255 < y) (h : lo8 x = lo8 y) : x = y := by
  rw [← lo8_mask h0 h1, ← lo8_mask k0 k1, h]
/-- arrays coded by one coder are equal just where the texts are -/
theorem Cod.eqv {cd : Int32} {n k : Nat} {f g : Nat → Int32} {V V' : Cell} (h : Cod cd n f V) (h' : Cod cd k g V') (hf : ∀ j, j < n → ¬ f j < 0 ∧ ¬ 65535 < f j) (hg : ∀ j, j < k → ¬ g j < 0 ∧ ¬ 65535 < g j) : EqC V V' ↔ SameT n f k g := by
  have yvv : ∀ {W : Cell} {i : Nat} {x : Int32}, W.slots[i]? = some (.int x) → yv W i = x := fun q => by unfold yv; rw [q]
  rcases h with ⟨rfl, k1, k2⟩ | ⟨rfl, k1, k2, -⟩
  · rcases h' with ⟨-, m1, m2⟩ | ⟨e, -⟩
    · constructor
      · rintro ⟨e1, e2⟩
        refine ⟨by omega, fun j hj => ?_⟩
        have q := e2 j (by omega)
        rw [yvv (k2 j hj).1, yvv (m2 j (by omega)).1] at q
        exact lo8_inj (hf j hj).1 (k2 j hj).2 (hg j (by omega)).1 (m2 j (by omega)).2 q
      · rintro ⟨rfl, e2⟩
        refine ⟨by omega, fun j hj => ?_⟩
        rw [yvv (k2 j (by omega)).1, yvv (m2 j (by omega)).1, e2 j (by omega)]
    · exact absurd e (by decide)
  · rcases h' with ⟨e, -⟩ | ⟨-, m1, m2, -⟩
    · exact absurd e (by decide)
    · constructor
      · rintro ⟨e1, e2⟩
        refine ⟨by omega, fun j hj => ?_⟩
        have q1 := e2 (2 * j) (by omega)
        have q2 := e2 (2 * j + 1) (by omega)
        rw [yvv (k2 j hj).1, yvv (m2 j (by omega)).1] at q1
        rw [yvv (k2 j hj).2, yvv (m2 j (by omega)).2] at q2
        rw [← pair_says (hf j hj).1 (hf j hj).2, ← pair_says (hg j (by omega)).1 (hg j (by omega)).2, q1, q2]
      · rintro ⟨rfl, e2⟩
        refine ⟨by omega, fun i hi => ?_⟩
        rcases Nat.mod_two_eq_zero_or_one i with e | e
        · obtain ⟨j, rfl⟩ : ∃ j, i = 2 * j := ⟨i / 2, by omega⟩
          rw [yvv (k2 j (by omega)).1, yvv (m2 j (by omega)).1, e2 j (by omega)]
        · obtain ⟨j, rfl⟩ : ∃ j, i = 2 * j + 1 := ⟨i / 2, by omega⟩
          rw [yvv (k2 j (by omega)).2, yvv (m2 j (by omega)).2, e2 j (by omega)]
/-- two codings differ: so do the texts -/
theorem Cod.dif {cd cd' : Int32} {n k : Nat} {f g : Nat → Int32} {V V' : Cell} (h : Cod cd n f V) (h' : Cod cd' k g V') (hne : ¬ cd = cd') : ¬ SameT n f k g := by
  rintro ⟨rfl, e⟩
  rcases h with ⟨rfl, -, k2⟩ | ⟨rfl, -, -, j, hj, hw⟩
  · rcases h' with ⟨rfl, -⟩ | ⟨-, -, -, j, hj, hw⟩
    · exact hne rfl
    · exact (k2 j hj).2 (by rw [e j hj]; exact hw)
  · rcases h' with ⟨-, -, m2⟩ | ⟨rfl, -⟩
    · exact (m2 j hj).2 (by rw [← e j hj]; exact hw)
    · exact hne rfl
/-- an object of exactly C is an instance of C -/
theorem cinst {p : Program} {l : Launch} {e : Env} {R : Room} {s : State} {m : MethodId} {args : Array Value} {below : List Frame} {meth : Method} {c : Code} {T : State} {locs : List Loc} {cells slots : Nat} (X : Stand p l e R s m args below meth c T locs cells slots) (hexec : p.tables.exec = Jvm.exec) {own C : String} {index : Nat} (hown : s.vm.findClass own = some m.cls) (hlink : (Cond.classLink own index C).before args s = true) {a : Addr} (hE : Exact C a T)
    {g : JFrame} (hg : g.method = m) {rest : List Value} (hstack : g.stack = .ref a :: rest) (hdg : decode c.code g.pc = .ok (.instanceof index, 3)) :
    ∃ T', Stand p l e R s m args below meth c T' locs cells slots ∧ T'.heap = T.heap ∧ ∀ target, Steps p.tables e below (T'.setTop { g with pc := g.pc + 3, stack := .int 1 :: rest }) target → Steps p.tables e below (T.setTop g) target := by
  obtain ⟨cB, h1, D, h2, h3, h4⟩ := hE
  have h1' : s.vm.findClass C = some cB := by rw [← X.warmed.alike.findClass]; exact h1
  obtain ⟨vm', X', st⟩ := X.instanceofYes hexec hown hlink h2 h4 h1' (by rw [h3]; exact Jvm.Free.SB.assignable_self _ _) hg hstack hdg
  exact ⟨_, X', rfl, st⟩
theorem cself {p : Program} {l : Launch} {e : Env} {R : Room} {s : State} {m : MethodId} {args : Array Value} {below : List Frame} {meth : Method} {c : Code} {T : State} {locs : List Loc} {cells slots : Nat} (X : Stand p l e R s m args below meth c T locs cells slots) (hexec : p.tables.exec = Jvm.exec) {own C : String} {index : Nat} (hown : s.vm.findClass own = some m.cls) (hlink : (Cond.classLink own index C).before args s = true) {a : Addr} (hE : Exact C a T)
    {g : JFrame} (hg : g.method = m) {rest : List Value} (hstack : g.stack = .ref a :: rest) (hdg : decode c.code g.pc = .ok (.checkcast index, 3)) :
    ∃ T', Stand p l e R s m args below meth c T' locs cells slots ∧ T'.heap = T.heap ∧ ∀ target, Steps p.tables e below (T'.setTop { g with pc := g.pc + 3, stack := .ref a :: rest }) target → Steps p.tables e below (T.setTop g) target := by
  obtain ⟨cB, h1, D, h2, h3, h4⟩ := hE
  have h1' : s.vm.findClass C = some cB := by rw [← X.warmed.alike.findClass]; exact h1
  obtain ⟨vm', X', st⟩ := X.checkcastYes hexec hown hlink h2 h4 h1' (by rw [h3]; exact Jvm.Free.SB.assignable_self _ _) hg hstack hdg
  exact ⟨_, X', rfl, fun t h => st t (by rw [← hstack] at h; exact h)⟩
namespace SEq
def yN : MethodName := ⟨"java/lang/String", "equals", "(Ljava/lang/Object;)Z"⟩
abbrev yB : ByteArray := jdk_42_method_66_code
theorem d0 : decode yB 0 = .ok (.aload_n 0, 1) := by decide +kernel
theorem d1 : decode yB 1 = .ok (.aload_n 1, 1) := by decide +kernel
theorem d2 : decode yB 2 = .ok (.if_acmp (.ne) 5, 3) := by decide +kernel
theorem d5 : decode yB 5 = .ok (.iconst 1, 1) := by decide +kernel
theorem d6 : decode yB 6 = .ok (.ireturn, 1) := by decide +kernel
theorem d7 : decode yB 7 = .ok (.aload_n 1, 1) := by decide +kernel
theorem d8 : decode yB 8 = .ok (.instanceof 10, 3) := by decide +kernel
theorem d11 : decode yB 11 = .ok (.ifCond (.eq) 43, 3) := by decide +kernel
theorem d14 : decode yB 14 = .ok (.aload_n 1, 1) := by decide +kernel
theorem d15 : decode yB 15 = .ok (.checkcast 10, 3) := by decide +kernel
theorem d18 : decode yB 18 = .ok (.astore_n 2, 1) := by decide +kernel
theorem d19 : decode yB 19 = .ok (.getstatic 38, 3) := by decide +kernel
theorem d22 : decode yB 22 = .ok (.ifCond (.eq) 14, 3) := by decide +kernel
theorem d25 : decode yB 25 = .ok (.aload_n 0, 1) := by decide +kernel
theorem d26 : decode yB 26 = .ok (.getfield 15, 3) := by decide +kernel
theorem d29 : decode yB 29 = .ok (.aload_n 2, 1) := by decide +kernel
theorem d30 : decode yB 30 = .ok (.getfield 15, 3) := by decide +kernel
theorem d33 : decode yB 33 = .ok (.if_icmp (.ne) 21, 3) := by decide +kernel
theorem d36 : decode yB 36 = .ok (.aload_n 0, 1) := by decide +kernel
theorem d37 : decode yB 37 = .ok (.getfield 9, 3) := by decide +kernel
theorem d40 : decode yB 40 = .ok (.aload_n 2, 1) := by decide +kernel
theorem d41 : decode yB 41 = .ok (.getfield 9, 3) := by decide +kernel
theorem d44 : decode yB 44 = .ok (.invokestatic 541, 3) := by decide +kernel
theorem d47 : decode yB 47 = .ok (.ifCond (.eq) 7, 3) := by decide +kernel
theorem d50 : decode yB 50 = .ok (.iconst 1, 1) := by decide +kernel
theorem d51 : decode yB 51 = .ok (.goto 4, 3) := by decide +kernel
theorem d54 : decode yB 54 = .ok (.iconst 0, 1) := by decide +kernel
theorem d55 : decode yB 55 = .ok (.ireturn, 1) := by decide +kernel
def site : List Cond := [.classLink "java/lang/String" 10 "java/lang/String", .fieldLink "java/lang/String" 38 "java/lang/String" "COMPACT_STRINGS" "Z", .fieldLink "java/lang/String" 15 "java/lang/String" "coder" "B", .fieldLink "java/lang/String" 9 "java/lang/String" "value" "[B", LEq.tab] ++ staticW "java/lang/String" 541 LEq.yN
def tab : Cond := tabOf yN yB 3 (some .boolean) site
def P (x t : Addr) (V : Cell) (cd : Int32) (n : Nat) (f : Nat → Int32) (y t' : Addr) (V' : Cell) (cd' : Int32) (k : Nat) (g : Nat → Int32) (z : Int32) (args : Array Value) (s : State) : Prop := args = #[.ref x, .ref y] ∧ Txt x t V cd n f s ∧ Txt y t' V' cd' k g s ∧ StaticIs s "java/lang/String" "COMPACT_STRINGS" "Z" (.int z) ∧ ¬ z = 0
/-- equals(Object) of two Strings: whether the texts are the same -/
theorem law (l : Launch) (x t : Addr) (V : Cell) (cd : Int32) (n : Nat) (f : Nat → Int32) (y t' : Addr) (V' : Cell) (cd' : Int32) (k : Nat) (g : Nat → Int32) (z : Int32) : Law l yN 2 1 1 14 yB 3 (some .boolean) site (P x t V cd n f y t' V' cd' k g z) (Says01 (SameT n f k g)) [] 0 0 := by
  refine Law.of_walk (plainFor_of_name (by decide +kernel)) (by decide +kernel) (by decide +kernel) (by decide) (fun _ _ h => by rw [h.1]; rfl) (fun _ U U' hal hh h => ⟨h.1, h.2.1.mv hal hh, h.2.2.1.mv hal hh, h.2.2.2.1.there hal hh, h.2.2.2.2⟩) (fun r U U' V V' h1 hal h2 h => Says01.mv r U U' V V' h1 hal h2 h) ?_
  intro p e s m args below meth c s₁ X0 hexec hbytes hml hret hlk hnm hown hh0 W hP
  obtain ⟨rfl, hx, hy, s1, hz⟩ := hP
  have c1 : Steps p.tables e below (s₁.setTop (entryFrame m #[.ref x, .ref y] 3)) (s₁.setTop (mkF m 2 #[.val (.ref x), .val (.ref y), .unset] [.ref y, .ref x])) := Steps.trans (entry rfl) (by
    show Steps p.tables e below (s₁.setTop (mkF m 0 #[.val (.ref x), .val (.ref y), .unset] [])) _
    refine XS.aloadN X0.here hexec rfl (hb hbytes d0) rfl rfl ?_
    refine XS.aloadN X0.here hexec rfl (hb hbytes d1) rfl rfl ?_
    exact Steps.refl _)
  by_cases hxy : x = y
  · have c2 : Steps p.tables e below (s₁.setTop (entryFrame m #[.ref x, .ref y] 3)) (s₁.setTop (mkF m 6 #[.val (.ref x), .val (.ref y), .unset] [.int 1])) := c1.trans (by
      refine acmpNo X0.here hexec rfl (hb hbytes d2) rfl rfl rfl (by simp [acmp, hxy]) ?_
      refine iconstV X0.here hexec rfl 1 (hb hbytes d5) (by decide) ?_
      exact Steps.refl _)
    subst hxy
    have ec : cd = cd' := by
      obtain ⟨D, fd, a1, a2, a3⟩ := hx.2.2.1
      obtain ⟨D', fd', b1, b2, b3⟩ := hy.2.2.1
      cases a1.symm.trans b1
      obtain ⟨q1, q2, q3, q4⟩ := a2.1
      obtain ⟨r1, r2, r3, r4⟩ := b2.1
      cases q4.symm.trans r4
      cases a3.symm.trans b3; rfl
    have et : t = t' := by
      obtain ⟨D, fd, a1, a2, a3⟩ := hx.2.1
      obtain ⟨D', fd', b1, b2, b3⟩ := hy.2.1
      cases a1.symm.trans b1
      obtain ⟨q1, q2, q3, q4⟩ := a2.1
      obtain ⟨r1, r2, r3, r4⟩ := b2.1
      cases q4.symm.trans r4
      cases a3.symm.trans b3; rfl
    subst ec et
    have ev : V = V' := by cases hx.2.2.2.1.1.symm.trans hy.2.2.2.1.1; rfl
    subst ev
    have hs : SameT n f k g := (Cod.eqv hx.2.2.2.2.1 hy.2.2.2.2.1 hx.2.2.2.2.2 hy.2.2.2.2.2).mp ⟨rfl, fun _ _ => rfl⟩
    exact ⟨s₁, some (.int 1), _, _, _, X0, rfl, rfl, rfl, (fun h => by cases h), ⟨1, rfl, hh0, Or.inl ⟨rfl, hs⟩⟩, fun fs hl => c2.trans (X0.ireturnOut hexec hret rfl (Or.inr (Or.inl rfl)) (hb hbytes d6) hl)⟩
  · have c2 : Steps p.tables e below (s₁.setTop (entryFrame m #[.ref x, .ref y] 3)) (s₁.setTop (mkF m 8 #[.val (.ref x), .val (.ref y), .unset] [.ref y])) := c1.trans (by
      refine acmpYes X0.here hexec rfl (pc0 := 2) rfl (hb hbytes d2) rfl rfl rfl (by simp [acmp, hxy]) (by decide) rfl ?_
      refine XS.aloadN X0.here hexec rfl (hb hbytes d7) rfl rfl ?_
      exact Steps.refl _)
    obtain ⟨T3, X3, q3, st3⟩ := cinst X0 hexec hown (wk W (.classLink "java/lang/String" 10 "java/lang/String")) (hy.mv X0.warmed.alike hh0).1 (g := (mkF m 8 #[.val (.ref x), .val (.ref y), .unset] [.ref y])) rfl (rest := []) rfl (hb hbytes d8)
    have hh3 := q3.trans hh0
    have c4 : Steps p.tables e below (s₁.setTop (entryFrame m #[.ref x, .ref y] 3)) (T3.setTop (mkF m 15 #[.val (.ref x), .val (.ref y), .unset] [.ref y])) := (c2.trans (st3 _ (Steps.refl _))).trans (by
      refine XS.ifNo X3.here hexec rfl (hb hbytes d11) rfl (i0_eq_f (by decide)) ?_
      refine XS.aloadN X3.here hexec rfl (hb hbytes d14) rfl rfl ?_
      exact Steps.refl _)
    obtain ⟨T5, X5, q5, st5⟩ := cself X3 hexec hown (wk W (.classLink "java/lang/String" 10 "java/lang/String")) (hy.mv X3.warmed.alike hh3).1 (g := (mkF m 15 #[.val (.ref x), .val (.ref y), .unset] [.ref y])) rfl (rest := []) rfl (hb hbytes d15)
    have hh5 := q5.trans hh3
    have c6 : Steps p.tables e below (s₁.setTop (entryFrame m #[.ref x, .ref y] 3)) (T5.setTop (mkF m 19 #[.val (.ref x), .val (.ref y), .val (.ref y)] [])) := (c4.trans (st5 _ (Steps.refl _))).trans (by
      refine XS.astoreN X5.here hexec rfl (hb hbytes d18) rfl rfl rfl ?_
      exact Steps.refl _)
    obtain ⟨T7, X7, q7, st7⟩ := X5.sget hexec hown (wk W (.fieldLink "java/lang/String" 38 "java/lang/String" "COMPACT_STRINGS" "Z")) s1 (fun _ _ h => by rw [hh5]; exact h) (g := (mkF m 19 #[.val (.ref x), .val (.ref y), .val (.ref y)] [])) rfl (hb hbytes d19)
    have hh7 := q7.trans hh5
    have c8 : Steps p.tables e below (s₁.setTop (entryFrame m #[.ref x, .ref y] 3)) (T7.setTop (mkF m 26 #[.val (.ref x), .val (.ref y), .val (.ref y)] [.ref x])) := (c6.trans (st7 _ (Steps.refl _))).trans (by
      refine XS.ifNo X7.here hexec rfl (hb hbytes d22) rfl (i0_eq_f hz) ?_
      refine XS.aloadN X7.here hexec rfl (hb hbytes d25) rfl rfl ?_
      exact Steps.refl _)
    obtain ⟨T9, X9, q9, st9⟩ := X7.hget hexec hown (wk W (.fieldLink "java/lang/String" 15 "java/lang/String" "coder" "B")) (hx.mv X7.warmed.alike hh7).2.2.1 (g := (mkF m 26 #[.val (.ref x), .val (.ref y), .val (.ref y)] [.ref x])) rfl (rest := []) rfl (hb hbytes d26)
    have hh9 := q9.trans hh7
    have c10 : Steps p.tables e below (s₁.setTop (entryFrame m #[.ref x, .ref y] 3)) (T9.setTop (mkF m 30 #[.val (.ref x), .val (.ref y), .val (.ref y)] [.ref y, .int cd])) := (c8.trans (st9 _ (Steps.refl _))).trans (by
      refine XS.aloadN X9.here hexec rfl (hb hbytes d29) rfl rfl ?_
      exact Steps.refl _)
    obtain ⟨T11, X11, q11, st11⟩ := X9.hget hexec hown (wk W (.fieldLink "java/lang/String" 15 "java/lang/String" "coder" "B")) (hy.mv X9.warmed.alike hh9).2.2.1 (g := (mkF m 30 #[.val (.ref x), .val (.ref y), .val (.ref y)] [.ref y, .int cd])) rfl (rest := [.int cd]) rfl (hb hbytes d30)
    have hh11 := q11.trans hh9
    have c12 : Steps p.tables e below (s₁.setTop (entryFrame m #[.ref x, .ref y] 3)) (T11.setTop (mkF m 33 #[.val (.ref x), .val (.ref y), .val (.ref y)] [.int cd', .int cd])) := c10.trans (st11 _ (Steps.refl _))
    by_cases hcd : cd = cd'
    · subst hcd
      have c13 : Steps p.tables e below (s₁.setTop (entryFrame m #[.ref x, .ref y] 3)) (T11.setTop (mkF m 37 #[.val (.ref x), .val (.ref y), .val (.ref y)] [.ref x])) := c12.trans (by
        refine XS.icmpNo X11.here hexec rfl (hb hbytes d33) rfl (ii_ne_f rfl) ?_
        refine XS.aloadN X11.here hexec rfl (hb hbytes d36) rfl rfl ?_
        exact Steps.refl _)
      obtain ⟨T14, X14, q14, st14⟩ := X11.hget hexec hown (wk W (.fieldLink "java/lang/String" 9 "java/lang/String" "value" "[B")) (hx.mv X11.warmed.alike hh11).2.1 (g := (mkF m 37 #[.val (.ref x), .val (.ref y), .val (.ref y)] [.ref x])) rfl (rest := []) rfl (hb hbytes d37)
      have hh14 := q14.trans hh11
      have c15 : Steps p.tables e below (s₁.setTop (entryFrame m #[.ref x, .ref y] 3)) (T14.setTop (mkF m 41 #[.val (.ref x), .val (.ref y), .val (.ref y)] [.ref y, .ref t])) := (c13.trans (st14 _ (Steps.refl _))).trans (by
        refine XS.aloadN X14.here hexec rfl (hb hbytes d40) rfl rfl ?_
        exact Steps.refl _)
      obtain ⟨T16, X16, q16, st16⟩ := X14.hget hexec hown (wk W (.fieldLink "java/lang/String" 9 "java/lang/String" "value" "[B")) (hy.mv X14.warmed.alike hh14).2.1 (g := (mkF m 41 #[.val (.ref x), .val (.ref y), .val (.ref y)] [.ref y, .ref t])) rfl (rest := [.ref t]) rfl (hb hbytes d41)
      have hh16 := q16.trans hh14
      have c17 : Steps p.tables e below (s₁.setTop (entryFrame m #[.ref x, .ref y] 3)) (T16.setTop (mkF m 44 #[.val (.ref x), .val (.ref y), .val (.ref y)] [.ref t', .ref t])) := c15.trans (st16 _ (Steps.refl _))
      obtain ⟨v18, T18, X18, E18, g18⟩ := X16.callS hexec (LEq.law l t V t' V') hown (wks W (staticW "java/lang/String" 541 LEq.yN)) (wk W LEq.tab) (W := 0) (Nat.le_of_ble_eq_true rfl) (Nat.le_of_ble_eq_true rfl) (Nat.le_refl _) (Nat.le_refl _) (g := (mkF m 44 #[.val (.ref x), .val (.ref y), .val (.ref y)] [.ref t', .ref t])) rfl (by rw [hml]; rfl) c17 (argsL := [.ref t, .ref t']) (rest := []) rfl rfl (by show 2 * 0 + 0 ≤ _; decide) (hb hbytes d44) (⟨rfl, hx.2.2.2.1.mv X16.warmed.alike hh16, hx.2.2.2.2.1.ty, hy.2.2.2.1.mv X16.warmed.alike hh16, hy.2.2.2.2.1.ty⟩)
      obtain ⟨v, rfl, q18, hv⟩ := E18
      have iff := Cod.eqv hx.2.2.2.2.1 hy.2.2.2.2.1 hx.2.2.2.2.2 hy.2.2.2.2.2
      rcases hv with ⟨rfl, he⟩ | ⟨rfl, he⟩
      · have c19 : Steps p.tables e below (s₁.setTop (entryFrame m #[.ref x, .ref y] 3)) (T18.setTop (mkF m 55 #[.val (.ref x), .val (.ref y), .val (.ref y)] [.int 1])) := Steps.trans g18 (by
          refine XS.ifNo X18.here hexec rfl (hb hbytes d47) rfl (i0_eq_f (by decide)) ?_
          refine iconstV X18.here hexec rfl 1 (hb hbytes d50) (by decide) ?_
          refine XS.goto X18.here hexec rfl (pc0 := 51) rfl (hb hbytes d51) (by decide) rfl ?_
          exact Steps.refl _)
        exact ⟨T18, some (.int 1), _, _, _, X18, rfl, rfl, rfl, (fun h => by cases h), ⟨1, rfl, q18.trans hh16, Or.inl ⟨rfl, iff.mp he⟩⟩, fun fs hl => c19.trans (X18.ireturnOut hexec hret rfl (Or.inr (Or.inl rfl)) (hb hbytes d55) hl)⟩
      · have c19 : Steps p.tables e below (s₁.setTop (entryFrame m #[.ref x, .ref y] 3)) (T18.setTop (mkF m 55 #[.val (.ref x), .val (.ref y), .val (.ref y)] [.int 0])) := Steps.trans g18 (by
          refine XS.ifYes X18.here hexec rfl (pc0 := 47) rfl (hb hbytes d47) rfl (i0_eq_t rfl) (by decide) rfl ?_
          refine iconstV X18.here hexec rfl 0 (hb hbytes d54) (by decide) ?_
          exact Steps.refl _)
        exact ⟨T18, some (.int 0), _, _, _, X18, rfl, rfl, rfl, (fun h => by cases h), ⟨0, rfl, q18.trans hh16, Or.inr ⟨rfl, fun q => he (iff.mpr q)⟩⟩, fun fs hl => c19.trans (X18.ireturnOut hexec hret rfl (Or.inr (Or.inl rfl)) (hb hbytes d55) hl)⟩
    · have c13 : Steps p.tables e below (s₁.setTop (entryFrame m #[.ref x, .ref y] 3)) (T11.setTop (mkF m 55 #[.val (.ref x), .val (.ref y), .val (.ref y)] [.int 0])) := c12.trans (by
        refine XS.icmpYes X11.here hexec rfl (pc0 := 33) rfl (hb hbytes d33) rfl (ii_ne_t hcd) (by decide) rfl ?_
        refine iconstV X11.here hexec rfl 0 (hb hbytes d54) (by decide) ?_
        exact Steps.refl _)
      exact ⟨T11, some (.int 0), _, _, _, X11, rfl, rfl, rfl, (fun h => by cases h), ⟨0, rfl, hh11, Or.inr ⟨rfl, Cod.dif hx.2.2.2.2.1 hy.2.2.2.2.1 hcd⟩⟩, fun fs hl => c13.trans (X11.ireturnOut hexec hret rfl (Or.inr (Or.inl rfl)) (hb hbytes d55) hl)⟩
theorem pays {l : Launch} {R : Room} {p : Program} {e : Env} {below : List Frame} {s : State} {sargs : Array Value} {len W : Nat} (x t : Addr) (V : Cell) (cd : Int32) (n : Nat) (f : Nat → Int32) (y t' : Addr) (V' : Cell) (cd' : Int32) (k : Nat) (g : Nat → Int32) (z : Int32) (htab : tab.before sargs s = true) (hfr : 2 ≤ R.frames) (hlo : W + 28 ≤ R.locals) :
    Back l R p e below s sargs yN len W (fun A₁ a₁ => A₁.cells + 0 ≤ R.cells ∧ A₁.slots + 0 ≤ R.slots ∧ P x t V cd n f y t' V' cd' k g z a₁ A₁.U) (fun A₁ _ v₁ B₁ => Says01 (SameT n f k g) v₁ A₁.U B₁.U ∧ B₁.locs = A₁.locs ++ [] ∧ B₁.cells = A₁.cells + 0 ∧ B₁.slots = A₁.slots + 0) :=
  (law l x t V cd n f y t' V' cd' k g z).pays htab hfr (by omega)
end SEq
end StrChars
namespace StrChars.Road
open Jvm Sem ClassFile Op Lib Jvm.Stand Jvm.Free Jvm.Free.XT
open Jvm.Lib.Cold (StaticIs)
/-- the words of String.isEmpty() -/
abbrev wordsEmp : List Jvm.Cond := [.code Emp.yN Emp.yB 1 (some .boolean), .initialized ST, .fieldLink ST 9 ST "value" "[B"]
theorem tabEmp_of {a : Array Value} {s : State} (h : ∀ w ∈ wordsEmp, w.before a s = true) : Emp.tab.before a s = true := unparts (wk h (.code Emp.yN Emp.yB 1 (some .boolean))) (wks h (.initialized Emp.yN.cls :: Emp.site))
theorem movedEmp {Z s : State} {a0 args : Array Value} (hZ : Z.Warmed39 s.vm) (hw : ∀ d ∈ wordsEmp, d.before a0 Z = true) : ∀ d ∈ wordsEmp, d.before args s = true := fun d hd => by
  have t : ∀ d ∈ wordsEmp, (d.onTables && d.keepsFace) = true := by decide +kernel
  exact RoadKit.mv hZ (hw d hd) (t d hd)
/-- the words of String.equals(Object) -/
abbrev wordsEq : List Jvm.Cond := [.code SEq.yN SEq.yB 3 (some .boolean), .initialized ST, .classLink ST 10 ST, .fieldLink ST 38 ST "COMPACT_STRINGS" "Z", .fieldLink ST 15 ST "coder" "B", .fieldLink ST 9 ST "value" "[B", .methodLink ST 541 LEq.yN, .static LEq.yN, .code LEq.yN LEq.yB 3 (some .boolean), .initialized "java/lang/StringLatin1"]
theorem tabEq_of {a : Array Value} {s : State} (h : ∀ w ∈ wordsEq, w.before a s = true) : SEq.tab.before a s = true := by
  have hl : LEq.tab.before a s = true := unparts (wk h (.code LEq.yN LEq.yB 3 (some .boolean))) (wks h (.initialized LEq.yN.cls :: LEq.site))
  have q := consq hl h
  exact unparts (wk q (.code SEq.yN SEq.yB 3 (some .boolean))) (wks q (.initialized SEq.yN.cls :: SEq.site))
theorem movedEq {Z s : State} {a0 args : Array Value} (hZ : Z.Warmed39 s.vm) (hw : ∀ d ∈ wordsEq, d.before a0 Z = true) : ∀ d ∈ wordsEq, d.before args s = true := fun d hd => by
  have t : ∀ d ∈ wordsEq, (d.onTables && d.keepsFace) = true := by decide +kernel
  exact RoadKit.mv hZ (hw d hd) (t d hd)
/-- the road's facts of a String, as the laws ask it -/
theorem txt_of {Z U : State} {a0 : Array Value} {kI : Nat} (wi : (Jvm.Cond.instantiable ST kI).before a0 Z = true) (al : Z.vm.Alike U.vm) {x t : Addr} {kb : ClassId} {cs : List Int32} {cd N2 : Int32} {vs : List Value} (E : RoadKit.Exa Z U.heap x ST) (V : RoadKit.Fld Z U.heap x ST "value" "[B" (.ref t)) (C : RoadKit.Fld Z U.heap x ST "coder" "B" (.int cd)) (K : RoadKit.Arv Z U.heap t kb .byte N2 vs (.int 0)) (hc : CodA cs cd N2 vs) (hb : ∀ c ∈ cs, ¬ c < 0 ∧ ¬ (65535 : Int32) < c) (l2 : cs.length ≤ 4000) :
    ∃ A, Txt x t A cd cs.length (fun j => cs.getD j 0) U := by
  obtain ⟨A, K1, K2, K3, K4, K5, K6⟩ := K
  have hcod := hc.cod (by omega) K3 K5
  obtain ⟨D, fV, fC, hB, F1, F2, g1, g2, -, -⟩ := strObj wi al E V C
  exact ⟨A, ⟨_, hB.2.2.1, D, hB.1, rfl, by cases q : D.vm <;> first | rfl | exact absurd q (hB.2.1.2 _)⟩, Has.of hB F1 g1, Has.of hB F2 g2, ⟨K1.1, State.isArrayOf_alike al K1.2.1, K1.2.2, by rcases hcod with ⟨-, q, -⟩ | ⟨-, q, -⟩ <;> omega⟩, hcod, fun j hj => by
    have e : cs.getD j 0 = cs[j] := by simp [List.getD_eq_getElem?_getD, hj]
    show ¬ cs.getD j 0 < 0 ∧ ¬ 65535 < cs.getD j 0
    rw [e]; exact hb _ (List.getElem_mem _)⟩
theorem same_list (cs ds : List Int32) : SameT cs.length (fun j => cs.getD j 0) ds.length (fun j => ds.getD j 0) ↔ cs = ds := by
  constructor
  · rintro ⟨e, q⟩
    refine List.ext_getElem e fun j h1 h2 => ?_
    have := q j h1
    simpa [List.getD_eq_getElem?_getD, h1, h2] using this
  · rintro rfl
    exact ⟨rfl, fun _ _ => rfl⟩
/-- **isEmpty() OF SUCH A STRING** -/
theorem empW {p : Program} {l : Launch} {e : Env} {R : Room} {s : State} {args : Array Value} {below : List Frame} {len W : Nat} {Z : State} {a0 : Array Value} {h : Heap} (hZ : Z.Warmed39 s.vm) (hw : ∀ d ∈ wordsEmp, d.before a0 Z = true) {kI : Nat} (wi : (Jvm.Cond.instantiable ST kI).before a0 Z = true)
    {x t : Addr} {kb : ClassId} {cs : List Int32} {cd N2 : Int32} {vs : List Value} (E : RoadKit.Exa Z h x ST) (V : RoadKit.Fld Z h x ST "value" "[B" (.ref t)) (C : RoadKit.Fld Z h x ST "coder" "B" (.int cd)) (K : RoadKit.Arv Z h t kb .byte N2 vs (.int 0)) (hc : CodA cs cd N2 vs) (hb : ∀ c ∈ cs, ¬ c < 0 ∧ ¬ (65535 : Int32) < c) (l2 : cs.length ≤ 4000) (hfr : 1 ≤ R.frames) (hlo : W + 12 ≤ R.locals) :
    Back l R p e below s args (⟨"java/lang/String", "isEmpty", "()Z"⟩ : MethodName) len W (fun P a => a = #[.ref x] ∧ P.U.heap = h ∧ P.cells + 0 ≤ R.cells ∧ P.slots + 0 ≤ R.slots)
      (fun P _ v B => ∃ L, (v = some (.int (if cs.length = 0 then 1 else 0)) ∧ L = [] ∧ B.U.heap = h) ∧ B.locs = P.locs ++ L ∧ B.cells = P.cells + 0 ∧ B.slots = P.slots + 0) := by
  intro m meth c P g ig mk a X hg hsize hdg hW hn hp'
  obtain ⟨rfl, rfl, r1, r2⟩ := hp'
  have al : Z.vm.Alike P.U.vm := hZ.alike.trans X.warmed.alike
  obtain ⟨A, hx⟩ := txt_of wi al E V C K hc hb l2
  obtain ⟨v, B, X', ⟨⟨hv, hh⟩, hl, hk, hs⟩, st⟩ := Emp.pays x t A cd cs.length (fun j => cs.getD j 0) (tabEmp_of (movedEmp hZ hw)) hfr hlo m meth c P g ig mk _ X hg hsize hdg hW hn ⟨r1, r2, rfl, hx⟩
  exact ⟨v, B, X', ⟨[], ⟨hv, rfl, hh⟩, hl, hk, hs⟩, st⟩
/-- **equals(Object) OF TWO SUCH STRINGS**: 1 just where the chars are the same -/
theorem eqW {p : Program} {l : Launch} {e : Env} {R : Room} {s : State} {args : Array Value} {below : List Frame} {len W : Nat} {Z : State} {a0 : Array Value} {h : Heap} (hZ : Z.Warmed39 s.vm) (hw : ∀ d ∈ wordsEq, d.before a0 Z = true) {kI : Nat} (wi : (Jvm.Cond.instantiable ST kI).before a0 Z = true)
    {x t : Addr} {kb : ClassId} {cs : List Int32} {cd N2 : Int32} {vs : List Value} (E : RoadKit.Exa Z h x ST) (V : RoadKit.Fld Z h x ST "value" "[B" (.ref t)) (C : RoadKit.Fld Z h x ST "coder" "B" (.int cd)) (K : RoadKit.Arv Z h t kb .byte N2 vs (.int 0)) (hc : CodA cs cd N2 vs) (hb : ∀ c ∈ cs, ¬ c < 0 ∧ ¬ (65535 : Int32) < c) (l2 : cs.length ≤ 4000)
    {y t' : Addr} {kb' : ClassId} {ds : List Int32} {cd' N2' : Int32} {vs' : List Value} (E' : RoadKit.Exa Z h y ST) (V' : RoadKit.Fld Z h y ST "value" "[B" (.ref t')) (C' : RoadKit.Fld Z h y ST "coder" "B" (.int cd')) (K' : RoadKit.Arv Z h t' kb' .byte N2' vs' (.int 0)) (hc' : CodA ds cd' N2' vs') (hb' : ∀ c ∈ ds, ¬ c < 0 ∧ ¬ (65535 : Int32) < c) (l2' : ds.length ≤ 4000)
    {z : Int32} (S : RoadKit.Sta Z h ST "COMPACT_STRINGS" "Z" (.int z)) (hz : ¬ z = 0) (hfr : 2 ≤ R.frames) (hlo : W + 28 ≤ R.locals) :
    Back l R p e below s args (⟨"java/lang/String", "equals", "(Ljava/lang/Object;)Z"⟩ : MethodName) len W (fun P a => a = #[.ref x, .ref y] ∧ P.U.heap = h ∧ P.cells + 0 ≤ R.cells ∧ P.slots + 0 ≤ R.slots)
      (fun P _ v B => ∃ L, (((v = some (.int 1) ∧ cs = ds) ∨ (v = some (.int 0) ∧ ¬ cs = ds)) ∧ L = [] ∧ B.U.heap = h) ∧ B.locs = P.locs ++ L ∧ B.cells = P.cells + 0 ∧ B.slots = P.slots + 0) := by
  intro m meth c P g ig mk a X hg hsize hdg hW hn hp'
  obtain ⟨rfl, rfl, r1, r2⟩ := hp'
  have al : Z.vm.Alike P.U.vm := hZ.alike.trans X.warmed.alike
  obtain ⟨A, hx⟩ := txt_of wi al E V C K hc hb l2
  obtain ⟨A', hy⟩ := txt_of wi al E' V' C' K' hc' hb' l2'
  obtain ⟨v, B, X', ⟨⟨w, hv, hh, hq⟩, hl, hk, hs⟩, st⟩ := SEq.pays x t A cd cs.length (fun j => cs.getD j 0) y t' A' cd' ds.length (fun j => ds.getD j 0) z (tabEq_of (movedEq hZ hw)) hfr hlo m meth c P g ig mk _ X hg hsize hdg hW hn ⟨r1, r2, rfl, hx, hy, sta_is al S, hz⟩
  refine ⟨v, B, X', ⟨[], ⟨?_, rfl, hh⟩, hl, hk, hs⟩, st⟩
  rcases hq with ⟨rfl, q⟩ | ⟨rfl, q⟩
  · exact Or.inl ⟨hv, (same_list cs ds).mp q⟩
  · exact Or.inr ⟨hv, fun e => q ((same_list cs ds).mpr e)⟩
end StrChars.Road
namespace StrChars.Road
open Jvm Sem ClassFile Op Lib Jvm.Stand Jvm.Free Jvm.Free.XT
open Jvm.Lib.Cold (StaticIs)
/-- what backV says of its String, as the contracts of this text ask it: cs's low bytes, coder 0 -/
theorem codOf {cs : List Int32} {n : Nat} (hn : cs.length = n) (hb : ∀ c ∈ cs, ¬ 255 < c) : CodA cs 0 (Int32.ofNat n) ((cs.map lo8).map Value.int) := Or.inl ⟨rfl, by rw [hn], by simp [List.map_map, Function.comp_def], hb⟩
end StrChars.Road
end Jvm.Pilot.@@N@@

namespace Jvm.Pilot.@@N@@
open Jvm Jvm.ClassFile Sem Op Lib Jvm.Free Jvm.Stand Jvm.LawKit Jvm.RoadKit Bundle Jvm.Pilot.@@N@@.Jvm.D
section OwnKit
variable {p : Program} {l : Launch} {e : Env} {R : Room} {s : State} {m : MethodId} {args : Array Value} {below : List Frame} {meth : Method} {c : Code} {T : State} {locs : List Loc} {cells slots : Nat}
def own_Go (p : Program) (e : Env) (below : List Frame) (P : Outcome → State → Prop) (U : State) : Prop := ∃ s₂ o, Steps p.tables e below U s₂ ∧ s₂.status = .running ∧ Ended s₂ below o ∧ P o s₂
abbrev own_Post (s : State) (Q : Option Value → Heap → List Loc → Prop) (K N : Nat) : Outcome → State → Prop := fun o U => ∃ v L, o = .returned v ∧ Q v U.heap L ∧ FrameEnd s o U L K N
theorem own_to {P : Outcome → State → Prop} {U V : State} (k : own_Go p e below P V) (h : ∀ t, Steps p.tables e below V t → Steps p.tables e below U t) : own_Go p e below P U := by
  obtain ⟨s₂, o, a, r⟩ := k
  exact ⟨s₂, o, h _ a, r⟩
theorem own_start {U : State} {K N : Nat} (Q : Option Value → Heap → List Loc → Prop) (k : own_Go p e below (own_Post s Q K N) U) : ∃ s₂ o, Steps p.tables e below U s₂ ∧ s₂.status = .running ∧ Ended s₂ below o ∧ ∃ v L, o = .returned v ∧ Q v s₂.heap L ∧ FrameEnd s o s₂ L K N := k
theorem own_irem {tb : Tables} [Ours tb] {e : Env} {below : List Frame} {T target : State} {m : MethodId} {c : Code} {g : JFrame} (h : At T m c below) (hx : tb.exec = Jvm.exec) (hg : g.method = m) {x y : Int32} {rest : List Value} (hd : decode c.code g.pc = .ok (.irem, 1)) (hs : g.stack = .int y :: .int x :: rest) (hy : y ≠ 0)
    (hr : Steps tb e below (T.setTop { g with pc := g.pc + 1, stack := .int (x % y) :: rest }) target) : Steps tb e below (T.setTop g) target := by
  refine XS.irem h hx hg hd hs hy ?_
  have q : x - x / y * y = x % y := Jvm.irem_eq_mod x y
  rw [q]; exact hr
section Out
variable {Q : Option Value → Heap → List Loc → Prop} {K N : Nat}
theorem own_out (X : Stand p l e R s m args below meth c T locs cells slots) {v : Option Value} (hv : meth.sig.returnType = none → v = none) (hlk : meth.locks = false) {g : JFrame}
    (st : ∀ fs, (∀ (f : JFrame) (acts : List Action), f.method = m → f.locked = none → f.entered = [] → (doReturn e (T.setTop f) acts v).1 = T.setFrames fs) → Steps p.tables e below (T.setTop g) (T.setFrames fs)) (hq : Q v T.heap locs) (hk : cells ≤ K) (hn : slots ≤ N) : own_Go p e below (own_Post s Q K N) (T.setTop g) := by
  obtain ⟨fs, hr, hrun, hended, hW, hsame⟩ := X.leave (v := v) hv hlk
  exact ⟨_, _, st fs hr, hrun, hended, v, locs, rfl, hq, ⟨_, rfl⟩, hW, hsame.mono hk hn⟩
theorem own_retN (X : Stand p l e R s m args below meth c T locs cells slots) (hx : p.tables.exec = Jvm.exec) {pc : Nat} {Ls : Array Slot} {z w : Int32} {t : FieldType} {rest : List Value} (hret : meth.sig.returnType = some t) (ht : t = .boolean ∨ t = .byte ∨ t = .char ∨ t = .short) (hn' : nar t z = w) (hlk : meth.locks = false)
    (hd : decode c.code pc = .ok (.ireturn, 1)) (hq : Q (some (.int w)) T.heap locs) (hk : cells ≤ K) (hn : slots ≤ N) : own_Go p e below (own_Post s Q K N) (T.setTop (mkF m pc Ls (.int z :: rest))) := by
  subst hn'
  exact own_out X (fun h => by rw [hret] at h; cases h) hlk (fun fs hr => retN X hx hret ht hd hr) hq hk hn
theorem own_retI (X : Stand p l e R s m args below meth c T locs cells slots) (hx : p.tables.exec = Jvm.exec) {pc : Nat} {Ls : Array Slot} {z : Int32} {rest : List Value} (hret : meth.sig.returnType = some .int) (hlk : meth.locks = false)
    (hd : decode c.code pc = .ok (.ireturn, 1)) (hq : Q (some (.int z)) T.heap locs) (hk : cells ≤ K) (hn : slots ≤ N) : own_Go p e below (own_Post s Q K N) (T.setTop (mkF m pc Ls (.int z :: rest))) :=
  own_out X (fun h => by rw [hret] at h; cases h) hlk (fun fs hr => retOut X hx hret rfl (Or.inl ⟨rfl, Or.inl rfl, _, rfl⟩) hd hr) hq hk hn
theorem own_retJ (X : Stand p l e R s m args below meth c T locs cells slots) (hx : p.tables.exec = Jvm.exec) {pc : Nat} {Ls : Array Slot} {z : Int64} {rest : List Value} (hret : meth.sig.returnType = some .long) (hlk : meth.locks = false)
    (hd : decode c.code pc = .ok (.lreturn, 1)) (hq : Q (some (.long z)) T.heap locs) (hk : cells ≤ K) (hn : slots ≤ N) : own_Go p e below (own_Post s Q K N) (T.setTop (mkF m pc Ls (.long z :: rest))) :=
  own_out X (fun h => by rw [hret] at h; cases h) hlk (fun fs hr => retOut X hx hret rfl (Or.inr (Or.inl ⟨rfl, rfl, _, rfl⟩)) hd hr) hq hk hn
theorem own_retR (X : Stand p l e R s m args below meth c T locs cells slots) (hx : p.tables.exec = Jvm.exec) {pc : Nat} {Ls : Array Slot} {w : Value} {t : FieldType} {rest : List Value} (hret : meth.sig.returnType = some t) (ht : t.isReference = true) (hw : w.isRef = true) (hlk : meth.locks = false)
    (hd : decode c.code pc = .ok (.areturn, 1)) (hq : Q (some w) T.heap locs) (hk : cells ≤ K) (hn : slots ≤ N) : own_Go p e below (own_Post s Q K N) (T.setTop (mkF m pc Ls (w :: rest))) :=
  own_out X (fun h => by rw [hret] at h; cases h) hlk (fun fs hr => retOut X hx hret (by cases t <;> first | (cases ht; done) | (cases w <;> first | rfl | (cases hw; done))) (Or.inr (Or.inr (Or.inr (Or.inr ⟨rfl, ht, hw⟩)))) hd hr) hq hk hn
theorem own_retV (X : Stand p l e R s m args below meth c T locs cells slots) (hx : p.tables.exec = Jvm.exec) {pc : Nat} {Ls : Array Slot} (hret : meth.sig.returnType = none) (hlk : meth.locks = false)
    (hd : decode c.code pc = .ok (.return_, 1)) (hq : Q none T.heap locs) (hk : cells ≤ K) (hn : slots ≤ N) : own_Go p e below (own_Post s Q K N) (T.setTop (mkF m pc Ls [])) :=
  own_out X (fun _ => rfl) hlk (fun fs hr => X.returnOut hx hret hd hr) hq hk hn
end Out
abbrev own_PostW (s : State) (Q : Option Value → Heap → List Loc → Prop) (K N : Nat) : Outcome → State → Prop := fun o U => ∃ v L, o = .returned v ∧ Q v U.heap L ∧ ReturnedEndW s o U L K N
theorem own_startW {U : State} {K N : Nat} (Q : Option Value → Heap → List Loc → Prop) (k : own_Go p e below (own_PostW s Q K N) U) : ∃ s₂ o, Steps p.tables e below U s₂ ∧ s₂.status = .running ∧ Ended s₂ below o ∧ ∃ v L, o = .returned v ∧ Q v s₂.heap L ∧ ReturnedEndW s o s₂ L K N := k
section OutW
variable {Q : Option Value → Heap → List Loc → Prop} {K N k0 : Nat} {vm0 : Vm}
theorem own_outW (X : Stand p l e R (s.setVm vm0) m args below meth c T locs cells slots) (hS : s.Since vm0 k0) (hk0 : k0 ≤ T.heap.size) {v : Option Value} (hv : meth.sig.returnType = none → v = none) (hlk : meth.locks = false) {g : JFrame}
    (st : ∀ fs, (∀ (f : JFrame) (acts : List Action), f.method = m → f.locked = none → f.entered = [] → (doReturn e (T.setTop f) acts v).1 = T.setFrames fs) → Steps p.tables e below (T.setTop g) (T.setFrames fs)) (hq : Q v T.heap locs) (hk : cells ≤ K) (hn : slots ≤ N) : own_Go p e below (own_PostW s Q K N) (T.setTop g) := by
  obtain ⟨fs, hr, hrun, hended, h1, h2, h3, hsame⟩ := X.leaveW hS hk0 (v := v) hv hlk
  exact ⟨_, _, st fs hr, hrun, hended, v, locs, rfl, hq, h1, h2, h3, hsame.mono hk hn⟩
theorem own_retNW (X : Stand p l e R (s.setVm vm0) m args below meth c T locs cells slots) (hx : p.tables.exec = Jvm.exec) (hS : s.Since vm0 k0) (hk0 : k0 ≤ T.heap.size) {pc : Nat} {Ls : Array Slot} {z w : Int32} {t : FieldType} {rest : List Value} (hret : meth.sig.returnType = some t) (ht : t = .boolean ∨ t = .byte ∨ t = .char ∨ t = .short) (hn' : nar t z = w) (hlk : meth.locks = false)
    (hd : decode c.code pc = .ok (.ireturn, 1)) (hq : Q (some (.int w)) T.heap locs) (hk : cells ≤ K) (hn : slots ≤ N) : own_Go p e below (own_PostW s Q K N) (T.setTop (mkF m pc Ls (.int z :: rest))) := by
  subst hn'
  exact own_outW X hS hk0 (fun h => by rw [hret] at h; cases h) hlk (fun fs hr => retN X hx hret ht hd hr) hq hk hn
theorem own_retIW (X : Stand p l e R (s.setVm vm0) m args below meth c T locs cells slots) (hx : p.tables.exec = Jvm.exec) (hS : s.Since vm0 k0) (hk0 : k0 ≤ T.heap.size) {pc : Nat} {Ls : Array Slot} {z : Int32} {rest : List Value} (hret : meth.sig.returnType = some .int) (hlk : meth.locks = false)
    (hd : decode c.code pc = .ok (.ireturn, 1)) (hq : Q (some (.int z)) T.heap locs) (hk : cells ≤ K) (hn : slots ≤ N) : own_Go p e below (own_PostW s Q K N) (T.setTop (mkF m pc Ls (.int z :: rest))) :=
  own_outW X hS hk0 (fun h => by rw [hret] at h; cases h) hlk (fun fs hr => retOut X hx hret rfl (Or.inl ⟨rfl, Or.inl rfl, _, rfl⟩) hd hr) hq hk hn
theorem own_retRW (X : Stand p l e R (s.setVm vm0) m args below meth c T locs cells slots) (hx : p.tables.exec = Jvm.exec) (hS : s.Since vm0 k0) (hk0 : k0 ≤ T.heap.size) {pc : Nat} {Ls : Array Slot} {w : Value} {t : FieldType} {rest : List Value} (hret : meth.sig.returnType = some t) (ht : t.isReference = true) (hw : w.isRef = true) (hlk : meth.locks = false)
    (hd : decode c.code pc = .ok (.areturn, 1)) (hq : Q (some w) T.heap locs) (hk : cells ≤ K) (hn : slots ≤ N) : own_Go p e below (own_PostW s Q K N) (T.setTop (mkF m pc Ls (w :: rest))) :=
  own_outW X hS hk0 (fun h => by rw [hret] at h; cases h) hlk (fun fs hr => retOut X hx hret (by cases t <;> first | (cases ht; done) | (cases w <;> first | rfl | (cases hw; done))) (Or.inr (Or.inr (Or.inr (Or.inr ⟨rfl, ht, hw⟩)))) hd hr) hq hk hn
theorem own_retVW (X : Stand p l e R (s.setVm vm0) m args below meth c T locs cells slots) (hx : p.tables.exec = Jvm.exec) (hS : s.Since vm0 k0) (hk0 : k0 ≤ T.heap.size) {pc : Nat} {Ls : Array Slot} (hret : meth.sig.returnType = none) (hlk : meth.locks = false)
    (hd : decode c.code pc = .ok (.return_, 1)) (hq : Q none T.heap locs) (hk : cells ≤ K) (hn : slots ≤ N) : own_Go p e below (own_PostW s Q K N) (T.setTop (mkF m pc Ls [])) :=
  own_outW X hS hk0 (fun _ => rfl) hlk (fun fs hr => X.returnOut hx hret hd hr) hq hk hn
end OutW
theorem own_ole {Z : State} {n0 : Nat} {h : Heap} (X : Old Z n0 h) : n0 ≤ h.size := X.1 ▸ X.2.1
theorem own_hk {T : State} {h : Heap} {k0 : Nat} (e : T.heap = h) (q : k0 ≤ h.size) : k0 ≤ T.heap.size := Nat.le_trans q (Nat.le_of_eq (congrArg Array.size e.symm))
theorem own_lat2 {cs : List Int32} (h : ∀ c ∈ cs, ¬ c < 0 ∧ ¬ (255 : Int32) < c) : ∀ c ∈ cs, ¬ (255 : Int32) < c := fun c hc => (h c hc).2
theorem own_nm0 {a : Addr} : a ∉ ([] : List Addr) := List.not_mem_nil
theorem own_nmS {a b : Addr} {L : List Addr} (h : a ≠ b) (r : a ∉ L) : a ∉ b :: L := fun q => (List.mem_cons.mp q).elim h r
theorem own_cat {v : Value} (h : v.isRef = true) : v.category = 1 := by cases v <;> first | rfl | (cases h; done)
theorem own_narR {v : Value} {C : String} (h : v.isRef = true) : narrow (.object C) v = v := by cases v <;> first | rfl | (cases h; done)
theorem own_fitR {v : Value} {C : String} (h : v.isRef = true) : fits (.object C) v = true := by cases v <;> first | rfl | (cases h; done)
theorem own_all0 {P : Int32 → Prop} : ∀ x ∈ ([] : List Int32), P x := fun _ q => nomatch q
theorem own_allS {P : Int32 → Prop} {y : Int32} {L : List Int32} (q : P y) (r : ∀ x ∈ L, P x) : ∀ x ∈ y :: L, P x := fun x z => (List.mem_cons.mp z).elim (fun u => u ▸ q) (r x)
theorem own_i2c_rng (x : Int32) : ¬ x.toUInt32.toUInt16.toUInt32.toInt32 < 0 ∧ ¬ (65535 : Int32) < x.toUInt32.toUInt16.toUInt32.toInt32 := by
  have q := c_i2c x
  have e1 : (65535 : Int32).toInt = 65535 := rfl
  have e0 : (0 : Int32).toInt = 0 := rfl
  simp only [Int32.lt_iff_toInt_lt, e1, e0]
  omega
theorem own_and255 (x : Int32) : ¬ (x &&& (255 : Int32)).toUInt32.toUInt16.toUInt32.toInt32 < 0 ∧ ¬ (255 : Int32) < (x &&& (255 : Int32)).toUInt32.toUInt16.toUInt32.toInt32 := by
  rw [i2c_mask]
  have q := c_and x 255 (by decide)
  have e1 : (255 : Int32).toInt = 255 := rfl
  have e0 : (0 : Int32).toInt = 0 := rfl
  simp only [Int32.lt_iff_toInt_lt, e1, e0] at q ⊢
  omega
theorem own_up {x : Int32} (h : ¬ x < 0 ∧ ¬ (255 : Int32) < x) : ¬ x < 0 ∧ ¬ (65535 : Int32) < x := by
  have e1 : (255 : Int32).toInt = 255 := rfl
  have e2 : (65535 : Int32).toInt = 65535 := rfl
  have e0 : (0 : Int32).toInt = 0 := rfl
  simp only [Int32.lt_iff_toInt_lt, e1, e2, e0] at h ⊢
  omega
theorem own_i2c_id {x : Int32} (h : ¬ x < 0 ∧ ¬ (65535 : Int32) < x) : x.toUInt32.toUInt16.toUInt32.toInt32 = x := by
  have q := c_i2c x
  have e2 : (65535 : Int32).toInt = 65535 := rfl
  have e0 : (0 : Int32).toInt = 0 := rfl
  simp only [Int32.lt_iff_toInt_lt, e2, e0] at h
  apply Int32.toInt_inj.mp
  omega
theorem own_narC {x : Int32} (h : ¬ x < 0 ∧ ¬ (65535 : Int32) < x) : nar .char x = x := own_i2c_id h
theorem own_fitC {x : Int32} (h : ¬ x < 0 ∧ ¬ (65535 : Int32) < x) : fits .char (.int x) = true := by rw [← own_narC h]; exact fits_nar_char x
theorem own_narB {x : Int32} : nar .byte (x.toInt8.toInt32) = x.toInt8.toInt32 := by
  have h : ∀ y : Int8, y.toInt32.toInt8 = y := fun y => by simp
  show (x.toInt8.toInt32).toInt8.toInt32 = _
  rw [h]
theorem own_narZ {x : Int32} (h : x = 0 ∨ x = 1) : nar .boolean x = x := by rcases h with rfl | rfl <;> rfl
/-- a String that spells the chars cs; its bytes lie in the array u -/
def own_Str (Z : State) (h : Heap) (a u : Addr) (cs : List Int32) : Prop := Exa Z h a "java/lang/String" ∧ ∃ (cd N : Int32) (k : ClassId) (vs : List Value), Fld Z h a "java/lang/String" "value" "[B" (.ref u) ∧ Fld Z h a "java/lang/String" "coder" "B" (.int cd) ∧ Arv Z h u k .byte N vs (.int 0) ∧ StrChars.Road.CodA cs cd N vs ∧ (∀ c ∈ cs, ¬ c < 0 ∧ ¬ (65535 : Int32) < c) ∧ cs.length ≤ 4000
section Str
variable {Z : State} {h h' : Heap} {a u b : Addr} {cs : List Int32} {ws : List Addr} {sl : Nat} {v : Value}
theorem own_Str.lt (F : own_Str Z h a u cs) : a < h.size := F.1.lt
theorem own_Str.lt2 (F : own_Str Z h a u cs) : u < h.size := by obtain ⟨_, _, _, _, _, _, _, K, _⟩ := F; exact K.lt
theorem own_Str.ext (F : own_Str Z h a u cs) (E : Ext h h') : own_Str Z h' a u cs := by
  obtain ⟨x, cd, N, k, vs, f1, f2, f3, r⟩ := F
  exact ⟨x.ext E, cd, N, k, vs, f1.ext E, f2.ext E, f3.ext E, r⟩
theorem own_Str.keep (F : own_Str Z h a u cs) (K : Keep h h' ws) (q : a ∉ ws) (q' : u ∉ ws) : own_Str Z h' a u cs := by
  obtain ⟨x, cd, N, k, vs, f1, f2, f3, r⟩ := F
  exact ⟨x.keep K, cd, N, k, vs, f1.keep K q, f2.keep K q, f3.keep K q', r⟩
theorem own_Str.wr (F : own_Str Z h a u cs) (W : Wr h h' b sl v) (q : a ≠ b) (q' : u ≠ b) : own_Str Z h' a u cs := by
  obtain ⟨x, cd, N, k, vs, f1, f2, f3, r⟩ := F
  exact ⟨x.wr W, cd, N, k, vs, f1.other W (Or.inl q), f2.other W (Or.inl q), f3.other W q', r⟩
theorem own_mkStr0 {k : ClassId} {N : Int32} (E : Exa Z h a "java/lang/String") (V : Fld Z h a "java/lang/String" "value" "[B" (.ref u)) (C : Fld Z h a "java/lang/String" "coder" "B" (.int 0)) (K : Arv Z h u k .byte N ((cs.map (fun c => c.toInt8.toInt32)).map Value.int) (.int 0)) (hN : N = Int32.ofNat cs.length) (hp : ∀ c ∈ cs, ¬ c < 0 ∧ ¬ (255 : Int32) < c) (l : cs.length ≤ 4000) : own_Str Z h a u cs :=
  ⟨E, 0, N, k, _, V, C, K, by rw [hN]; exact StrChars.Road.codOf rfl (fun c hc => (hp c hc).2), fun c hc => own_up (hp c hc), l⟩
theorem own_mkLit {k : ClassId} {N : Int32} {vs : List Value} (E : Exa Z h a "java/lang/String") (V : Fld Z h a "java/lang/String" "value" "[B" (.ref u)) (C : Fld Z h a "java/lang/String" "coder" "B" (.int 0)) (K : Arv Z h u k .byte N vs (.int 0)) (hN : N = Int32.ofNat cs.length) (hp : ∀ c ∈ cs, ¬ c < 0 ∧ ¬ (255 : Int32) < c) (hv : vs = cs.map (fun c => Value.int (StrChars.lo8 c))) (l : cs.length ≤ 4000) : own_Str Z h a u cs :=
  ⟨E, 0, N, k, vs, V, C, K, Or.inl ⟨rfl, hN, hv, fun c hc => (hp c hc).2⟩, fun c hc => own_up (hp c hc), l⟩
/-- what a String of signs up to 255 holds -/
theorem own_Str.latin (F : own_Str Z h a u cs) (hp : ∀ c ∈ cs, ¬ (255 : Int32) < c) : ∃ (N : Int32) (k : ClassId) (vs : List Value), Exa Z h a "java/lang/String" ∧ Fld Z h a "java/lang/String" "value" "[B" (.ref u) ∧ Fld Z h a "java/lang/String" "coder" "B" (.int 0) ∧ Arv Z h u k .byte N vs (.int 0) ∧ StrChars.Road.CodA cs 0 N vs ∧ (∀ c ∈ cs, ¬ c < 0 ∧ ¬ (65535 : Int32) < c) ∧ cs.length ≤ 4000 := by
  obtain ⟨x, cd, N, k, vs, f1, f2, f3, f4, f5, f6⟩ := F
  have e : cd = 0 := by
    rcases f4 with ⟨q, -⟩ | ⟨-, -, -, c, hc, hw⟩
    · exact q
    · exact absurd hw (hp c hc)
  subst e
  exact ⟨N, k, vs, x, f1, f2, f3, f4, f5, f6⟩
theorem own_Str.latinL (F : own_Str Z h a u cs) (hp : ∀ c ∈ cs, ¬ (255 : Int32) < c) : ∃ (k : ClassId), Exa Z h a "java/lang/String" ∧ Fld Z h a "java/lang/String" "value" "[B" (.ref u) ∧ Fld Z h a "java/lang/String" "coder" "B" (.int 0) ∧ Arv Z h u k .byte (Int32.ofNat cs.length) (cs.map (fun c => Value.int (StrChars.lo8 c))) (.int 0) ∧ (∀ c ∈ cs, ¬ c < 0 ∧ ¬ (65535 : Int32) < c) := by
  obtain ⟨x, cd, N, k, vs, f1, f2, f3, f4, f5, f6⟩ := F
  rcases f4 with ⟨q1, q2, q3, -⟩ | ⟨-, -, -, c, hc, hw⟩
  · subst q1 q2 q3
    exact ⟨k, x, f1, f2, f3, f5⟩
  · exact absurd hw (hp c hc)
end Str
theorem own_exA {Z : State} {h : Heap} {a u : Addr} {C : String} {n : Nat} {a0 : Array Value} {k : ClassId} {ty : FieldType} {z : Int32} {vs : List Value} {d : Value} (A : Arv Z h u k ty z vs d) (E : Exa Z h a C) (w : (Cond.instantiable C n).before a0 Z = true) : u ≠ a := by
  intro q
  subst q
  obtain ⟨cell, kk, e1, e2, e3, -, -⟩ := E
  obtain ⟨cl, ⟨a1, ⟨-, k', a3, comp, a4⟩, -⟩, -⟩ := A
  cases e1.symm.trans a1
  obtain ⟨t', k2, g1, g2, g3, -⟩ := Cond.instantiable_spec w
  cases g1.symm.trans e2
  cases g2.symm.trans a3
  rw [a4] at g3
  cases g3
theorem own_exU {Z : State} {h : Heap} {a u b : Addr} {cs : List Int32} {C : String} {n : Nat} {a0 : Array Value} (F : own_Str Z h b u cs) (E : Exa Z h a C) (w : (Cond.instantiable C n).before a0 Z = true) : u ≠ a := by
  obtain ⟨_, _, _, _, _, _, _, K, _⟩ := F
  exact own_exA K E w
section Sets
theorem own_staI {s : State} {args : Array Value} {C n d : String} {k : Int32} (h : (Cond.eq (.static C n d) (.int k)).value args s none s [] = some true) (hi : (Cond.initializedFor C n d).before args s = true) : Sta s s.heap C n d (.int k) := by
  obtain ⟨x, y, h1, h2, h3, h4⟩ := cmp_v (Or.inl h)
  cases (Term.int_eval (args := args) (first := s) (o := none) (idx := []) (s := s) k).symm.trans h2
  obtain ⟨z, rfl⟩ := h4
  have e := gotT (Cond.eq_ints h1 (Term.int_eval k)) h
  subst e
  exact Sta.start h1 (Or.inl hi)
theorem own_fldI {s : State} {args : Array Value} {t : Term} {a : Addr} {C n d : String} {k : Int32} (ev : t.eval args s none [] s = some (.ref a)) (h : (Cond.eq (.field t C n d) (.int k)).value args s none s [] = some true) : s.fieldOf? a C n d = some (.int k) := by
  obtain ⟨x, y, h1, h2, h3, h4⟩ := cmp_v (Or.inl h)
  cases (Term.int_eval (args := args) (first := s) (o := none) (idx := []) (s := s) k).symm.trans h2
  obtain ⟨z, rfl⟩ := h4
  have e := gotT (Cond.eq_ints h1 (Term.int_eval k)) h
  subst e
  rw [fld_at ev] at h1
  exact h1
end Sets
section Not
variable {Z : State} {a0 : Array Value}
theorem own_NSroot {O K : String} {n : Nat} (w : (Cond.noSuperclass O).before a0 Z = true) (wk : (Cond.instantiable K n).before a0 Z = true) (hn : O ≠ K) : NS Z O K := by
  obtain ⟨c, k, h1, h2, h3, -, -⟩ := Cond.noSuperclass_spec w
  obtain ⟨t, k2, g1, g2, g3, -⟩ := Cond.instantiable_spec wk
  have ne := ids_ne h1 g1 hn
  refine ⟨c, t, h1, g1, fun fuel => ?_⟩
  cases fuel with
  | zero => rfl
  | succ f => simp [Vm.isSubclassAux, ne, h2, h3]
theorem own_NSno {C S K : String} {n : Nat} (w : (Cond.superclass C S).before a0 Z = true) (wk : (Cond.instantiable K n).before a0 Z = true) (m : NS Z C K) (hn : C ≠ K) : ∃ c t, Z.vm.findClass C = some c ∧ Z.vm.findClass K = some t ∧ Z.vm.assignable c t = false := by
  obtain ⟨c, t, h0, g0, n3⟩ := m
  obtain ⟨p, k, kp, h1, h2, h3, h4, h5, -, h7⟩ := Cond.superclass_spec h0 w
  obtain ⟨t', k', g1, g2, g3, g4⟩ := Cond.instantiable_spec wk
  cases g0.symm.trans g1
  have ne := ids_ne h0 g0 hn
  refine ⟨c, t, h0, g0, ?_⟩
  show Z.vm.assignableAux (255 + 1) c t = false
  have g5 : k'.isInterface = false := (Bool.or_eq_false_iff.mp g4.1).1
  simp [Vm.assignableAux, ne, h2, g2, h5, g3, g5, Vm.isSubclass, n3]
end Not
end OwnKit

def own_St (Z : State) : Prop := (∃ G1 : Int32, Sta Z Z.heap "java/lang/String" "COMPACT_STRINGS" "Z" (.int G1) ∧ ¬ (G1 = (0 : Int32))) ∧ (∃ G3 : Value, Sta Z Z.heap "jdk/internal/util/Preconditions" "SIOOBE_FORMATTER" "Ljava/util/function/BiFunction;" G3 ∧ G3.isRef = true) ∧ (∃ (iC : Addr) (iL : Cell), Sta Z Z.heap "java/lang/Integer$IntegerCache" "high" "I" (.int (127 : Int32)) ∧ Sta Z Z.heap "java/lang/Integer$IntegerCache" "cache" "[Ljava/lang/Integer;" (.ref iC) ∧ Arr Z Z.heap iC iL (.object "java/lang/Integer") ∧ ∀ w : Int32, ¬ w < (-128 : Int32) → ¬ (127 : Int32) < w → ¬ ((w + (128 : Int32)) < 0 ∨ iL.slots.size ≤ (w + (128 : Int32)).toNatClampNeg) ∧ ∃ b : Addr, iL.slots[(w + (128 : Int32)).toNatClampNeg]? = some (.ref b) ∧ Exa Z Z.heap b "java/lang/Integer" ∧ Fld Z Z.heap b "java/lang/Integer" "value" "I" (.int w)) ∧ True
theorem own_hws {a0 : Array Value} {Z : State} (hw : ∀ d ∈ tables_1, d.before a0 Z = true) : ∀ d ∈ StrChars.Road.words, d.before a0 Z = true := fun d hd => hw d ((by decide +kernel : ∀ d ∈ StrChars.Road.words, d ∈ tables_1) d hd)
theorem own_hem {a0 : Array Value} {Z : State} (hw : ∀ d ∈ tables_1, d.before a0 Z = true) : ∀ d ∈ StrChars.Road.wordsEmp, d.before a0 Z = true := fun d hd => hw d ((by decide +kernel : ∀ d ∈ StrChars.Road.wordsEmp, d ∈ tables_1) d hd)
theorem own_heq {a0 : Array Value} {Z : State} (hw : ∀ d ∈ tables_1, d.before a0 Z = true) : ∀ d ∈ StrChars.Road.wordsEq, d.before a0 Z = true := fun d hd => hw d ((by decide +kernel : ∀ d ∈ StrChars.Road.wordsEq, d ∈ tables_1) d hd)
theorem own_hsa {a0 : Array Value} {Z : State} (hw : ∀ d ∈ tables_1, d.before a0 Z = true) : ∀ d ∈ Bundle.stringAtoms, d.before a0 Z = true := fun d hd => hw d ((by decide +kernel : ∀ d ∈ Bundle.stringAtoms, d ∈ tables_1) d hd)
theorem own_intcache {s : State} {args : Array Value} (h1 : (Cond.eq (.static "java/lang/Integer$IntegerCache" "high" "I") (.int 127)).value args s none s [] = some true) (h2 : (Cond.initializedFor "java/lang/Integer$IntegerCache" "high" "I").before args s = true) (h3 : (Cond.laysStatic "java/lang/Integer$IntegerCache" "cache" "[Ljava/lang/Integer;").before args s = true)
    (h4 : (Cond.arrayOf (.static "java/lang/Integer$IntegerCache" "cache" "[Ljava/lang/Integer;") (.object "java/lang/Integer")).value args s none s [] = some true) (h5 : (Cond.eq (.length (.static "java/lang/Integer$IntegerCache" "cache" "[Ljava/lang/Integer;")) (.int 256)).value args s none s [] = some true)
    (h6 : (Cond.all (.static "java/lang/Integer$IntegerCache" "cache" "[Ljava/lang/Integer;") (.and (.exactly (.elem (.static "java/lang/Integer$IntegerCache" "cache" "[Ljava/lang/Integer;") (.index 0)) "java/lang/Integer") (.eq (.field (.elem (.static "java/lang/Integer$IntegerCache" "cache" "[Ljava/lang/Integer;") (.index 0)) "java/lang/Integer" "value" "I") (.sub (.index 0) (.int 128))))).value args s none s [] = some true) (h7 : (Cond.initialized "java/lang/Integer$IntegerCache").before args s = true) :
    ∃ (iC : Addr) (iL : Cell), Sta s s.heap "java/lang/Integer$IntegerCache" "high" "I" (.int (127 : Int32)) ∧ Sta s s.heap "java/lang/Integer$IntegerCache" "cache" "[Ljava/lang/Integer;" (.ref iC) ∧ Arr s s.heap iC iL (.object "java/lang/Integer") ∧ ∀ w : Int32, ¬ w < (-128 : Int32) → ¬ (127 : Int32) < w → ¬ ((w + (128 : Int32)) < 0 ∨ iL.slots.size ≤ (w + (128 : Int32)).toNatClampNeg) ∧ ∃ b : Addr, iL.slots[(w + (128 : Int32)).toNatClampNeg]? = some (.ref b) ∧ Exa s s.heap b "java/lang/Integer" ∧ Fld s s.heap b "java/lang/Integer" "value" "I" (.int w) := by
  obtain ⟨a, ev⟩ := arr_v h4
  obtain ⟨c, A⟩ := Arr.start ev h4
  obtain ⟨q, e⟩ := Jvm.Free.IntBox.length_fwd (Cond.before_iff.mpr h5) ev A.1 A.2.1 A.2.2
  have B : Bxs s a c "java/lang/Integer" "I" 256 (fun j => .int (j - 128)) := Bxs.start (F := .sub (.index 0) (.int 128)) (fun _ => ev) A q e (by decide) h6 (fun X j nn h => eqv_i (by
    have e := idx_at (args := args) (s := s) (first := s) (o := none) nn
    simp only [Term.eval] at e ⊢
    rw [e]; rfl) h)
  have sz : c.slots.size = 256 := B.2.1
  refine ⟨a, c, own_staI h1 h2, Sta.start ev (Or.inr ⟨h7, h3⟩), A, fun w hl hh => ?_⟩
  have pl := Jvm.Free.IntBox.place_ok w hl hh
  have hb : ¬ ((w + (128 : Int32)) < 0 ∨ c.slots.size ≤ (w + (128 : Int32)).toNatClampNeg) := by rw [sz]; exact pl.1
  obtain ⟨b, x1, x2, x3⟩ := B.2.2.2 (w + 128) hb
  have e2 : w + 128 - 128 = w := Int32.add_sub_cancel w 128
  refine ⟨hb, b, x1, x2, ?_⟩
  simp only [e2] at x3
  exact x3
def own_tok (n a b : Int32) : List Int32 := if n = 1 then [a] else [a, b]
def own_in2 (n : Int32) : Prop := n = 1 ∨ n = 2
theorem own_tok_ne {n a b : Int32} : ¬ (own_tok n a b).length = 0 := by unfold own_tok; split <;> simp
theorem own_tok_eq {n q a b a' b' : Int32} (hn : own_in2 n) (hq : own_in2 q) : own_tok n a b = own_tok q a' b' ↔ n = q ∧ a = a' ∧ (¬ n = 2 ∨ b = b') := by
  rcases hn with rfl | rfl <;> rcases hq with rfl | rfl <;> simp [own_tok]
theorem own_bit2 (x : Int32) : own_in2 ((1 : Int32) + (x &&& (1 : Int32))) := by
  unfold own_in2
  rcases and_one x with h | h <;> rw [h] <;> decide
theorem own_sw {α β : Type} {a b : α} {c d : β} (h : a = b ∧ c = d) : b = a ∧ d = c := ⟨h.1.symm, h.2.symm⟩
theorem own_y1 {v : Int32} {P : Prop} (h : (v = (1 : Int32) ∧ P) ∨ (v = (0 : Int32) ∧ ¬ P)) (q : P) : (1 : Int32) = v := h.elim (fun w => w.1.symm) (fun w => absurd q w.2)
theorem own_y0 {v : Int32} {P : Prop} (h : (v = (1 : Int32) ∧ P) ∨ (v = (0 : Int32) ∧ ¬ P)) (q : ¬ P) : (0 : Int32) = v := h.elim (fun w => absurd w.2 q) (fun w => w.1.symm)
theorem own_pn0 : plainName "com/example/eager_query/eagerquery/model/TokenEqualsPinLaw" = true := by first | (simp [plainName, overriddenIn]; done) | decide +kernel
theorem own_d_m2_0 : decode method_2_code 0 = .ok (.iload_n 0, 1) := by decide +kernel
theorem own_d_m2_1 : decode method_2_code 1 = .ok (.iconst 1, 1) := by decide +kernel
theorem own_d_m2_2 : decode method_2_code 2 = .ok (.if_icmp .ne 20, 3) := by decide +kernel
theorem own_d_m2_5 : decode method_2_code 5 = .ok (.iconst 1, 1) := by decide +kernel
theorem own_d_m2_6 : decode method_2_code 6 = .ok (.newarray .char, 2) := by decide +kernel
theorem own_d_m2_8 : decode method_2_code 8 = .ok (.astore_n 3, 1) := by decide +kernel
theorem own_d_m2_9 : decode method_2_code 9 = .ok (.aload_n 3, 1) := by decide +kernel
theorem own_d_m2_10 : decode method_2_code 10 = .ok (.iconst 0, 1) := by decide +kernel
theorem own_d_m2_11 : decode method_2_code 11 = .ok (.iload_n 1, 1) := by decide +kernel
theorem own_d_m2_12 : decode method_2_code 12 = .ok (.castore, 1) := by decide +kernel
theorem own_d_m2_13 : decode method_2_code 13 = .ok (.new 7, 3) := by decide +kernel
theorem own_d_m2_16 : decode method_2_code 16 = .ok (.dup, 1) := by decide +kernel
theorem own_d_m2_17 : decode method_2_code 17 = .ok (.aload_n 3, 1) := by decide +kernel
theorem own_pd0 : parseMethodDescriptor "([C)V" = some ⟨[(.array .char)], none⟩ := by decide +kernel
theorem own_d_m2_18 : decode method_2_code 18 = .ok (.invokespecial 9, 3) := by decide +kernel
theorem own_d_m2_21 : decode method_2_code 21 = .ok (.areturn, 1) := by decide +kernel
theorem own_d_m2_22 : decode method_2_code 22 = .ok (.iconst 2, 1) := by decide +kernel
theorem own_d_m2_23 : decode method_2_code 23 = .ok (.newarray .char, 2) := by decide +kernel
theorem own_d_m2_25 : decode method_2_code 25 = .ok (.astore_n 3, 1) := by decide +kernel
theorem own_d_m2_26 : decode method_2_code 26 = .ok (.aload_n 3, 1) := by decide +kernel
theorem own_d_m2_27 : decode method_2_code 27 = .ok (.iconst 0, 1) := by decide +kernel
theorem own_d_m2_28 : decode method_2_code 28 = .ok (.iload_n 1, 1) := by decide +kernel
theorem own_d_m2_29 : decode method_2_code 29 = .ok (.castore, 1) := by decide +kernel
theorem own_d_m2_30 : decode method_2_code 30 = .ok (.aload_n 3, 1) := by decide +kernel
theorem own_d_m2_31 : decode method_2_code 31 = .ok (.iconst 1, 1) := by decide +kernel
theorem own_d_m2_32 : decode method_2_code 32 = .ok (.iload_n 2, 1) := by decide +kernel
theorem own_d_m2_33 : decode method_2_code 33 = .ok (.castore, 1) := by decide +kernel
theorem own_d_m2_34 : decode method_2_code 34 = .ok (.new 7, 3) := by decide +kernel
theorem own_d_m2_37 : decode method_2_code 37 = .ok (.dup, 1) := by decide +kernel
theorem own_d_m2_38 : decode method_2_code 38 = .ok (.aload_n 3, 1) := by decide +kernel
theorem own_d_m2_39 : decode method_2_code 39 = .ok (.invokespecial 9, 3) := by decide +kernel
theorem own_d_m2_42 : decode method_2_code 42 = .ok (.areturn, 1) := by decide +kernel
theorem own_pn1 : plainName "java/util/Objects" = true := by first | (simp [plainName, overriddenIn]; done) | decide +kernel
theorem own_d_jdk_31_m11_0 : decode jdk_31_method_11_code 0 = .ok (.aload_n 0, 1) := by decide +kernel
theorem own_d_jdk_31_m11_1 : decode jdk_31_method_11_code 1 = .ok (.ifnonnull 12, 3) := by decide +kernel
theorem own_d_jdk_31_m11_13 : decode jdk_31_method_11_code 13 = .ok (.aload_n 0, 1) := by decide +kernel
theorem own_d_jdk_31_m11_14 : decode jdk_31_method_11_code 14 = .ok (.areturn, 1) := by decide +kernel
theorem own_pn2 : plainName "com/example/eager_query/eagerquery/model/Token" = true := by first | (simp [plainName, overriddenIn]; done) | decide +kernel
theorem own_d_prog_22_m1_0 : decode prog_22_method_1_code 0 = .ok (.aload_n 0, 1) := by decide +kernel
theorem own_d_prog_22_m1_1 : decode prog_22_method_1_code 1 = .ok (.invokespecial 1, 3) := by decide +kernel
theorem own_d_prog_22_m1_4 : decode prog_22_method_1_code 4 = .ok (.aload_n 1, 1) := by decide +kernel
theorem own_d_prog_22_m1_5 : decode prog_22_method_1_code 5 = .ok (.ldc 7, 2) := by decide +kernel
theorem own_pd1 : parseMethodDescriptor "(Ljava/lang/Object;Ljava/lang/String;)Ljava/lang/Object;" = some ⟨[(.object "java/lang/Object"), (.object "java/lang/String")], some (.object "java/lang/Object")⟩ := by decide +kernel
theorem own_d_prog_22_m1_7 : decode prog_22_method_1_code 7 = .ok (.invokestatic 9, 3) := by decide +kernel
theorem own_d_prog_22_m1_10 : decode prog_22_method_1_code 10 = .ok (.pop, 1) := by decide +kernel
theorem own_d_prog_22_m1_11 : decode prog_22_method_1_code 11 = .ok (.aload_n 2, 1) := by decide +kernel
theorem own_d_prog_22_m1_12 : decode prog_22_method_1_code 12 = .ok (.ldc 15, 2) := by decide +kernel
theorem own_d_prog_22_m1_14 : decode prog_22_method_1_code 14 = .ok (.invokestatic 9, 3) := by decide +kernel
theorem own_d_prog_22_m1_17 : decode prog_22_method_1_code 17 = .ok (.pop, 1) := by decide +kernel
theorem own_d_prog_22_m1_18 : decode prog_22_method_1_code 18 = .ok (.aload_n 1, 1) := by decide +kernel
theorem own_pd2 : parseMethodDescriptor "()Z" = some ⟨[], some .boolean⟩ := by decide +kernel
theorem own_d_prog_22_m1_19 : decode prog_22_method_1_code 19 = .ok (.invokevirtual 17, 3) := by decide +kernel
theorem own_d_prog_22_m1_22 : decode prog_22_method_1_code 22 = .ok (.ifCond .ne 10, 3) := by decide +kernel
theorem own_d_prog_22_m1_25 : decode prog_22_method_1_code 25 = .ok (.aload_n 2, 1) := by decide +kernel
theorem own_d_prog_22_m1_26 : decode prog_22_method_1_code 26 = .ok (.invokevirtual 17, 3) := by decide +kernel
theorem own_d_prog_22_m1_29 : decode prog_22_method_1_code 29 = .ok (.ifCond .eq 13, 3) := by decide +kernel
theorem own_d_prog_22_m1_42 : decode prog_22_method_1_code 42 = .ok (.aload_n 0, 1) := by decide +kernel
theorem own_d_prog_22_m1_43 : decode prog_22_method_1_code 43 = .ok (.aload_n 1, 1) := by decide +kernel
theorem own_d_prog_22_m1_44 : decode prog_22_method_1_code 44 = .ok (.putfield 30, 3) := by decide +kernel
theorem own_d_prog_22_m1_47 : decode prog_22_method_1_code 47 = .ok (.aload_n 0, 1) := by decide +kernel
theorem own_d_prog_22_m1_48 : decode prog_22_method_1_code 48 = .ok (.aload_n 2, 1) := by decide +kernel
theorem own_d_prog_22_m1_49 : decode prog_22_method_1_code 49 = .ok (.putfield 35, 3) := by decide +kernel
theorem own_d_prog_22_m1_52 : decode prog_22_method_1_code 52 = .ok (.return_, 1) := by decide +kernel
theorem own_d_m3_0 : decode method_3_code 0 = .ok (.iload_n 0, 1) := by decide +kernel
theorem own_d_m3_1 : decode method_3_code 1 = .ok (.iload_n 3, 1) := by decide +kernel
theorem own_d_m3_2 : decode method_3_code 2 = .ok (.if_icmp .eq 5, 3) := by decide +kernel
theorem own_d_m3_7 : decode method_3_code 7 = .ok (.iload_n 1, 1) := by decide +kernel
theorem own_d_m3_8 : decode method_3_code 8 = .ok (.iload 4, 2) := by decide +kernel
theorem own_d_m3_10 : decode method_3_code 10 = .ok (.if_icmp .eq 5, 3) := by decide +kernel
theorem own_d_m3_15 : decode method_3_code 15 = .ok (.iload_n 0, 1) := by decide +kernel
theorem own_d_m3_16 : decode method_3_code 16 = .ok (.iconst 2, 1) := by decide +kernel
theorem own_d_m3_17 : decode method_3_code 17 = .ok (.if_icmp .ne 11, 3) := by decide +kernel
theorem own_d_m3_20 : decode method_3_code 20 = .ok (.iload_n 2, 1) := by decide +kernel
theorem own_d_m3_21 : decode method_3_code 21 = .ok (.iload 5, 2) := by decide +kernel
theorem own_d_m3_23 : decode method_3_code 23 = .ok (.if_icmp .eq 5, 3) := by decide +kernel
theorem own_d_m3_28 : decode method_3_code 28 = .ok (.iconst 1, 1) := by decide +kernel
theorem own_d_m3_29 : decode method_3_code 29 = .ok (.ireturn, 1) := by decide +kernel
theorem own_d_m3_26 : decode method_3_code 26 = .ok (.iconst 0, 1) := by decide +kernel
theorem own_d_m3_27 : decode method_3_code 27 = .ok (.ireturn, 1) := by decide +kernel
theorem own_d_m3_13 : decode method_3_code 13 = .ok (.iconst 0, 1) := by decide +kernel
theorem own_d_m3_14 : decode method_3_code 14 = .ok (.ireturn, 1) := by decide +kernel
theorem own_d_m3_5 : decode method_3_code 5 = .ok (.iconst 0, 1) := by decide +kernel
theorem own_d_m3_6 : decode method_3_code 6 = .ok (.ireturn, 1) := by decide +kernel
theorem own_pn3 : plainName "java/lang/Number" = true := by first | (simp [plainName, overriddenIn]; done) | decide +kernel
theorem own_d_jdk_18_m1_0 : decode jdk_18_method_1_code 0 = .ok (.aload_n 0, 1) := by decide +kernel
theorem own_d_jdk_18_m1_1 : decode jdk_18_method_1_code 1 = .ok (.invokespecial 1, 3) := by decide +kernel
theorem own_d_jdk_18_m1_4 : decode jdk_18_method_1_code 4 = .ok (.return_, 1) := by decide +kernel
theorem own_pn4 : plainName "java/lang/Integer" = true := by first | (simp [plainName, overriddenIn]; done) | decide +kernel
theorem own_d_jdk_33_m23_0 : decode jdk_33_method_23_code 0 = .ok (.aload_n 0, 1) := by decide +kernel
theorem own_pd3 : parseMethodDescriptor "()V" = some ⟨[], none⟩ := by decide +kernel
theorem own_d_jdk_33_m23_1 : decode jdk_33_method_23_code 1 = .ok (.invokespecial 202, 3) := by decide +kernel
theorem own_d_jdk_33_m23_4 : decode jdk_33_method_23_code 4 = .ok (.aload_n 0, 1) := by decide +kernel
theorem own_d_jdk_33_m23_5 : decode jdk_33_method_23_code 5 = .ok (.iload_n 1, 1) := by decide +kernel
theorem own_d_jdk_33_m23_6 : decode jdk_33_method_23_code 6 = .ok (.putfield 205, 3) := by decide +kernel
theorem own_d_jdk_33_m23_9 : decode jdk_33_method_23_code 9 = .ok (.return_, 1) := by decide +kernel
theorem own_d_jdk_33_m22_0 : decode jdk_33_method_22_code 0 = .ok (.iload_n 0, 1) := by decide +kernel
theorem own_d_jdk_33_m22_1 : decode jdk_33_method_22_code 1 = .ok (.bipush (-128), 2) := by decide +kernel
theorem own_d_jdk_33_m22_3 : decode jdk_33_method_22_code 3 = .ok (.if_icmp .lt 20, 3) := by decide +kernel
theorem own_d_jdk_33_m22_23 : decode jdk_33_method_22_code 23 = .ok (.new 1, 3) := by decide +kernel
theorem own_d_jdk_33_m22_26 : decode jdk_33_method_22_code 26 = .ok (.dup, 1) := by decide +kernel
theorem own_d_jdk_33_m22_27 : decode jdk_33_method_22_code 27 = .ok (.iload_n 0, 1) := by decide +kernel
theorem own_pd4 : parseMethodDescriptor "(I)V" = some ⟨[.int], none⟩ := by decide +kernel
theorem own_d_jdk_33_m22_28 : decode jdk_33_method_22_code 28 = .ok (.invokespecial 199, 3) := by decide +kernel
theorem own_d_jdk_33_m22_31 : decode jdk_33_method_22_code 31 = .ok (.areturn, 1) := by decide +kernel
theorem own_d_jdk_33_m22_6 : decode jdk_33_method_22_code 6 = .ok (.iload_n 0, 1) := by decide +kernel
theorem own_d_jdk_33_m22_7 : decode jdk_33_method_22_code 7 = .ok (.getstatic 191, 3) := by decide +kernel
theorem own_d_jdk_33_m22_10 : decode jdk_33_method_22_code 10 = .ok (.if_icmp .gt 13, 3) := by decide +kernel
theorem own_d_jdk_33_m22_13 : decode jdk_33_method_22_code 13 = .ok (.getstatic 195, 3) := by decide +kernel
theorem own_d_jdk_33_m22_16 : decode jdk_33_method_22_code 16 = .ok (.iload_n 0, 1) := by decide +kernel
theorem own_d_jdk_33_m22_17 : decode jdk_33_method_22_code 17 = .ok (.sipush 128, 3) := by decide +kernel
theorem own_d_jdk_33_m22_20 : decode jdk_33_method_22_code 20 = .ok (.iadd, 1) := by decide +kernel
theorem own_d_jdk_33_m22_21 : decode jdk_33_method_22_code 21 = .ok (.aaload, 1) := by decide +kernel
theorem own_d_jdk_33_m22_22 : decode jdk_33_method_22_code 22 = .ok (.areturn, 1) := by decide +kernel
theorem own_d_prog_22_m7_0 : decode prog_22_method_7_code 0 = .ok (.aload_n 0, 1) := by decide +kernel
theorem own_d_prog_22_m7_1 : decode prog_22_method_7_code 1 = .ok (.aload_n 1, 1) := by decide +kernel
theorem own_d_prog_22_m7_2 : decode prog_22_method_7_code 2 = .ok (.if_acmp .ne 5, 3) := by decide +kernel
theorem own_d_prog_22_m7_7 : decode prog_22_method_7_code 7 = .ok (.aload_n 1, 1) := by decide +kernel
theorem own_d_prog_22_m7_8 : decode prog_22_method_7_code 8 = .ok (.instanceof 31, 3) := by decide +kernel
theorem own_d_prog_22_m7_11 : decode prog_22_method_7_code 11 = .ok (.ifCond .ne 5, 3) := by decide +kernel
theorem own_d_prog_22_m7_14 : decode prog_22_method_7_code 14 = .ok (.iconst 0, 1) := by decide +kernel
theorem own_d_prog_22_m7_15 : decode prog_22_method_7_code 15 = .ok (.ireturn, 1) := by decide +kernel
theorem own_d_prog_22_m7_5 : decode prog_22_method_7_code 5 = .ok (.iconst 1, 1) := by decide +kernel
theorem own_d_prog_22_m7_6 : decode prog_22_method_7_code 6 = .ok (.ireturn, 1) := by decide +kernel
theorem own_d_prog_22_m7_16 : decode prog_22_method_7_code 16 = .ok (.aload_n 1, 1) := by decide +kernel
theorem own_d_prog_22_m7_17 : decode prog_22_method_7_code 17 = .ok (.checkcast 31, 3) := by decide +kernel
theorem own_d_prog_22_m7_20 : decode prog_22_method_7_code 20 = .ok (.astore_n 2, 1) := by decide +kernel
theorem own_d_prog_22_m7_21 : decode prog_22_method_7_code 21 = .ok (.aload_n 0, 1) := by decide +kernel
theorem own_d_prog_22_m7_22 : decode prog_22_method_7_code 22 = .ok (.getfield 30, 3) := by decide +kernel
theorem own_d_prog_22_m7_25 : decode prog_22_method_7_code 25 = .ok (.aload_n 2, 1) := by decide +kernel
theorem own_d_prog_22_m7_26 : decode prog_22_method_7_code 26 = .ok (.getfield 30, 3) := by decide +kernel
theorem own_pd5 : parseMethodDescriptor "(Ljava/lang/Object;)Z" = some ⟨[(.object "java/lang/Object")], some .boolean⟩ := by decide +kernel
theorem own_d_prog_22_m7_29 : decode prog_22_method_7_code 29 = .ok (.invokevirtual 91, 3) := by decide +kernel
theorem own_d_prog_22_m7_32 : decode prog_22_method_7_code 32 = .ok (.ifCond .eq 21, 3) := by decide +kernel
theorem own_d_prog_22_m7_35 : decode prog_22_method_7_code 35 = .ok (.aload_n 0, 1) := by decide +kernel
theorem own_d_prog_22_m7_36 : decode prog_22_method_7_code 36 = .ok (.getfield 35, 3) := by decide +kernel
theorem own_d_prog_22_m7_39 : decode prog_22_method_7_code 39 = .ok (.aload_n 2, 1) := by decide +kernel
theorem own_d_prog_22_m7_40 : decode prog_22_method_7_code 40 = .ok (.getfield 35, 3) := by decide +kernel
theorem own_d_prog_22_m7_43 : decode prog_22_method_7_code 43 = .ok (.invokevirtual 91, 3) := by decide +kernel
theorem own_d_prog_22_m7_46 : decode prog_22_method_7_code 46 = .ok (.ifCond .eq 7, 3) := by decide +kernel
theorem own_d_prog_22_m7_49 : decode prog_22_method_7_code 49 = .ok (.iconst 1, 1) := by decide +kernel
theorem own_d_prog_22_m7_50 : decode prog_22_method_7_code 50 = .ok (.goto 4, 3) := by decide +kernel
theorem own_d_prog_22_m7_54 : decode prog_22_method_7_code 54 = .ok (.ireturn, 1) := by decide +kernel
theorem own_d_prog_22_m7_53 : decode prog_22_method_7_code 53 = .ok (.iconst 0, 1) := by decide +kernel
theorem own_pd6 : parseMethodDescriptor "(ICC)Ljava/lang/String;" = some ⟨[.int, .char, .char], some (.object "java/lang/String")⟩ := by decide +kernel
theorem own_pd7 : parseMethodDescriptor "(Ljava/lang/String;Ljava/lang/String;)V" = some ⟨[(.object "java/lang/String"), (.object "java/lang/String")], none⟩ := by decide +kernel
theorem own_pd8 : parseMethodDescriptor "(I)Ljava/lang/Integer;" = some ⟨[.int], some (.object "java/lang/Integer")⟩ := by decide +kernel
theorem own_pd9 : parseMethodDescriptor "(ICCICC)Z" = some ⟨[.int, .char, .char, .int, .char, .char], some .boolean⟩ := by decide +kernel
def own_Qmake (Z : State) (wn : Int32) (wa : Int32) (wb : Int32) (h0 : Heap) (n0 : Nat) (v : Option Value) (h : Heap) (L : List Loc) : Prop := (∃ (oa : Addr) (ou : Addr), v = some (.ref oa) ∧ Fr n0 L ∧ Keep h0 h [] ∧ (h0.size ≤ oa) ∧ (h0.size ≤ ou) ∧ (oa ≠ ou) ∧ (own_Str Z h oa ou (own_tok wn wa wb)))
theorem own_ef_make (m : MethodId) (wn : Int32) (wa : Int32) (wb : Int32)  : entryFrame m #[(.int wn), (.int wa), (.int wb)] 4 = mkF m 0 #[.val (.int wn), .val (.int wa), .val (.int wb), .unset] [] := by first | (simp [entryFrame, mkF, argsToLocals, Value.category]; done) | rfl
set_option maxRecDepth 65536 in
set_option maxHeartbeats 40000000 in
theorem own_rmmake (l : Launch) (Z : State) (a0 : Array Value) (hw : ∀ d ∈ tables_1, d.before a0 Z = true) (hst : own_St Z) (ws : List Jvm.Cond) (wn : Int32) (wa : Int32) (wb : Int32) (h0 : Heap) (n0 : Nat) (X00 : Old Z n0 h0) (ha : ¬ wa < 0 ∧ ¬ (255 : Int32) < wa) (hbb : ¬ wb < 0 ∧ ¬ (255 : Int32) < wb) :
    MetFree l (⟨"com/example/eager_query/eagerquery/model/TokenEqualsPinLaw", "make", "(ICC)Ljava/lang/String;"⟩ : MethodName) (head1 (Jvm.Cond.code (⟨"com/example/eager_query/eagerquery/model/TokenEqualsPinLaw", "make", "(ICC)Ljava/lang/String;"⟩ : MethodName) method_2_code 4 (Option.some (Jvm.ClassFile.FieldType.object "java/lang/String")) :: ws) ({ frames := 4, cells := 3, slots := 8, locals := 66 } : Room)) (fun a U => a = #[(.int wn), (.int wa), (.int wb)] ∧ Z.Warmed39 U.vm ∧ U.heap = h0) (fun _ _ _ _ _ => True) (fun _ U o U' => ∃ v L, o = .returned v ∧ own_Qmake Z wn wa wb h0 n0 v U'.heap L ∧ FrameEnd U o U' L ({ frames := 4, cells := 3, slots := 8, locals := 66 } : Room).cells ({ frames := 4, cells := 3, slots := 8, locals := 66 } : Room).slots) := by
  refine MetFree.of_bodySF (plainFor_of_name own_pn0) hisR ?_
  intro p e s m args below meth c s₁ Bd hml0 hP hK
  obtain ⟨rfl, hZ, hh⟩ := hP
  have hx := Bd.exec
  have hby := Bd.bytes
  have hret := Bd.returns
  have hlk : meth.locks = false := BodyLoose.notSynchronized Bd
  have hml : c.maxLocals = 4 := hml0
  have hown : s.vm.findClass "com/example/eager_query/eagerquery/model/TokenEqualsPinLaw" = some m.cls := findClass_of_methodNamed Bd.named
  have hnm := (name_of_methodNamed Bd.named Bd.method).1
  have X0 : Stand p l e ({ frames := 4, cells := 3, slots := 8, locals := 66 } : Room) s m #[(.int wn), (.int wa), (.int wb)] below meth c s₁ [] 0 0 := Stand.of_body Bd
  have e0 : s₁.heap = h0 := by rw [← hh, Bd.state]; rfl
  have N0 := Fr.nil n0
  have KK0 : Keep h0 h0 [] := Keep.refl h0 _
  refine own_start (own_Qmake Z wn wa wb h0 n0) ?_
  refine own_to (V := s₁.setTop (mkF m 0 #[.val (.int wn), .val (.int wa), .val (.int wb), .unset] [])) ?_ (fun t k => castTop (own_ef_make m wn wa wb ) k)
  obtain ⟨⟨G1, O2, P5⟩, ⟨G3, O4, rG3⟩, ⟨iC, iL, iO1, iO2, iA, iE⟩, -⟩ := id hst
  refine own_to (V := s₁.setTop (mkF m 2 #[.val (.int wn), .val (.int wa), .val (.int wb), .unset] [(.int (1 : Int32)), (.int wn)])) ?_ fun t k => (by
    refine XS.iloadN X0.here hx rfl (hb hby own_d_m2_0) rfl ?_
    refine XS.iconst X0.here hx rfl (hb hby own_d_m2_1) ?_
    exact k)
  by_cases hc2_101 : wn = (1 : Int32)
  · skip
    refine own_to (V := s₁.setTop (mkF m 6 #[.val (.int wn), .val (.int wa), .val (.int wb), .unset] [(.int (1 : Int32))])) ?_ fun t k => (by
      refine XS.icmpNo X0.here hx rfl (hb hby own_d_m2_2) rfl (teq (hc2_101 : wn = (1 : Int32))).2 ?_
      refine XS.iconst X0.here hx rfl (hb hby own_d_m2_5) ?_
      exact k)
    obtain ⟨T102, h102, k102, X102, e102, E102, A102, st102⟩ := newP X0 hx hZ (hw _ (List.mem_of_getElem? (i := 4) rfl)) e0 (g := (mkF m 6 #[.val (.int wn), .val (.int wa), .val (.int wb), .unset] [(.int (1 : Int32))])) rfl (hb hby own_d_m2_6) rfl (by decide) (cap := 1) (by decide) (by decide) (by decide) (by decide)
    obtain ⟨b102, g102⟩ : ∃ z, z = h0.size := ⟨_, rfl⟩
    rw [← g102] at A102 st102
    have Xo102 : Old Z n0 h102 := X00.ext E102
    have KK102 : Keep h0 h102 [] := KK0.ext E102
    have ge_b102 : n0 ≤ b102 := Nat.le_trans (own_ole X00) (Nat.le_of_eq g102.symm)
    have sz_b102 : h0.size ≤ b102 := Nat.le_trans KK0.1 (Nat.le_of_eq g102.symm)
    have V102 : Arv Z h102 b102 k102 .char (1 : Int32) [(.int (0 : Int32))] (.int (0 : Int32)) := (Arv.new A102 (by decide)).pad (pad_rep [] (.int (0 : Int32)) 1)
    refine own_to (V := T102.setTop (mkF m 8 #[.val (.int wn), .val (.int wa), .val (.int wb), .unset] [(.ref b102)])) ?_ st102
    refine own_to (V := T102.setTop (mkF m 12 #[.val (.int wn), .val (.int wa), .val (.int wb), .val (.ref b102)] [(.int wa), (.int (0 : Int32)), (.ref b102)])) ?_ fun t k => (by
      refine XS.astoreN X102.here hx rfl (hb hby own_d_m2_8) rfl rfl (l' := #[.val (.int wn), .val (.int wa), .val (.int wb), .val (.ref b102)]) rfl ?_
      refine XS.aloadN X102.here hx rfl (hb hby own_d_m2_9) rfl rfl ?_
      refine XS.iconst X102.here hx rfl (hb hby own_d_m2_10) ?_
      refine XS.iloadN X102.here hx rfl (hb hby own_d_m2_11) rfl ?_
      exact k)
    obtain ⟨cl103, Ar103, q103, S103, M103, H103, G103⟩ := id V102
    obtain ⟨T103, h103, X103, e103, W103, st103⟩ := stC X102 hx hZ e102 Ar103 (j := (0 : Int32)) (inb_of S103 ⟨by decide, by decide⟩) (g := (mkF m 12 #[.val (.int wn), .val (.int wa), .val (.int wb), .val (.ref b102)] [(.int wa), (.int (0 : Int32)), (.ref b102)])) rfl rfl (hb hby own_d_m2_12)
    rw [own_narC (own_up ha)] at W103
    have Xo103 : Old Z n0 h103 := Xo102.wr W103 ge_b102
    have KK103 : Keep h0 h103 [] := KK102.wr W103 (Or.inr sz_b102)
    have V103 : Arv Z h103 b102 k102 .char (1 : Int32) [(.int wa)] (.int (0 : Int32)) := Arv.set Ar103 q103 S103 M103 H103 G103 (own_fitC (own_up ha)) W103 0 rfl (Nat.le_of_ble_eq_true rfl)
    have N103 := Fr.snoc X103 N0 ge_b102
    refine own_to (V := T103.setTop (mkF m 13 #[.val (.int wn), .val (.int wa), .val (.int wb), .val (.ref b102)] [])) ?_ st103
    obtain ⟨T104, h104, X104, e104, E104, A104, D104, U104, st104⟩ := newO X103 hx hZ hown (hw _ (List.mem_of_getElem? (i := 5) rfl)) (hw _ (List.mem_of_getElem? (i := 6) rfl)) (hw _ (List.mem_of_getElem? (i := 7) rfl)) e103 (g := (mkF m 13 #[.val (.int wn), .val (.int wa), .val (.int wb), .val (.ref b102)] [])) rfl (hb hby own_d_m2_13) (by decide) (by decide)
    obtain ⟨b104, g104⟩ : ∃ z, z = h103.size := ⟨_, rfl⟩
    rw [← g104] at A104 D104 U104 st104
    have Xo104 : Old Z n0 h104 := Xo103.ext E104
    have KK104 : Keep h0 h104 [] := KK103.ext E104
    have ge_b104 : n0 ≤ b104 := Nat.le_trans (own_ole Xo103) (Nat.le_of_eq g104.symm)
    have sz_b104 : h0.size ≤ b104 := Nat.le_trans KK103.1 (Nat.le_of_eq g104.symm)
    have Fi104_31 : Fld Z h104 b104 "java/lang/String" "coder" "B" (.int (0 : Int32)) := D104 (Or.inr (hw _ (List.mem_of_getElem? (i := 31) rfl))) (ty := .byte) (by decide)
    have Fi104_33 : Fld Z h104 b104 "java/lang/String" "value" "[B" .null := D104 (Or.inr (hw _ (List.mem_of_getElem? (i := 33) rfl))) (ty := (.array .byte)) (by decide)
    refine own_to (V := T104.setTop (mkF m 16 #[.val (.int wn), .val (.int wa), .val (.int wb), .val (.ref b102)] [(.ref b104)])) ?_ st104
    refine own_to (V := T104.setTop (mkF m 18 #[.val (.int wn), .val (.int wa), .val (.int wb), .val (.ref b102)] [(.ref b102), (.ref b104), (.ref b104)])) ?_ fun t k => (by
      refine XS.dup X104.here hx rfl (hb hby own_d_m2_16) rfl rfl ?_
      refine XS.aloadN X104.here hx rfl (hb hby own_d_m2_17) rfl rfl ?_
      exact k)
    have F106 : Arv Z h104 b102 k102 .char (1 : Int32) [(.int wa)] (.int (0 : Int32)) := (V103.ext E104)
    obtain ⟨_, _, ⟨T105, L105, k105, n105⟩, -, X105, ⟨Lc105, hQ105, l105, y105, z105⟩, st105⟩ := X104.specialBack hx (y := (⟨"java/lang/String", "<init>", "([C)V"⟩ : MethodName)) rfl hown (mvT hZ (hw _ (List.mem_of_getElem? (i := 8) rfl))) (mvT hZ (hw _ (List.mem_of_getElem? (i := 9) rfl))) (mvT hZ (hw _ (List.mem_of_getElem? (i := 10) rfl))) (by decide) (StrChars.Road.backV (W := 1) hZ (own_hws hw) (kI := 4) (hw _ (List.mem_of_getElem? (i := 6) rfl)) (cs := ([wa] : List Int32)) (bs := ([wa] : List Int32).map (fun c => c.toInt8.toInt32)) (n := 1) ge_b104 (own_ole Xo104) A104 Fi104_33 Fi104_31 F106 (O2.ext Xo104.2) P5 rfl rfl (by decide) (by decide) (own_allS ha own_all0) rfl (by decide) (by decide)) (g := (mkF m 18 #[.val (.int wn), .val (.int wa), .val (.int wb), .val (.ref b102)] [(.ref b102), (.ref b104), (.ref b104)])) rfl (by rw [hml]; rfl) (Steps.refl _) (a := b104) (argsL := [(.ref b102)]) (rest := [(.ref b104)]) (lenOf own_pd0 rfl) rfl (by show 2 * 0 + _ ≤ _; exact Nat.le_of_eq rfl) (hb hby own_d_m2_18) (fun _ _ => ⟨rfl, e104, (by decide : 2 + 1 ≤ _), (by decide : 5 + 1 ≤ _)⟩)
    dsimp only [Pt.U, Pt.locs, Pt.cells, Pt.slots] at X105 l105 y105 z105 st105 hQ105
    subst l105 y105 z105
    obtain ⟨hv105, N105q, K105, gE105, gC105, u105, kb105, ua105, ub105, uc105, gV105, gK105⟩ := hQ105
    subst hv105
    obtain ⟨h105, e105⟩ : ∃ z, T105.heap = z := ⟨_, rfl⟩
    rw [e105] at K105 gE105 gC105 gV105 gK105
    have Xo105 : Old Z n0 h105 := Xo104.keep K105 (allS ge_b104 all0)
    have KK105 : Keep h0 h105 [] := KK104.trans K105 (allS (Or.inr sz_b104) all0)
    have N105 := Fr.app N103 N105q
    have ge_u105 : n0 ≤ u105 := Nat.le_trans (own_ole Xo104) ub105
    have sz_u105 : h0.size ≤ u105 := Nat.le_trans KK104.1 ub105
    have Fs105 : own_Str Z h105 b104 u105 ([wa] : List Int32) := own_mkStr0 gE105 gV105 gC105 gK105 rfl (own_allS ha own_all0) (Nat.le_of_ble_eq_true rfl)
    refine own_to (V := T105.setTop (mkF m 21 #[.val (.int wn), .val (.int wa), .val (.int wb), .val (.ref b102)] [(.ref b104)])) ?_ (fun t k => st105.trans k)
    exact own_retR X105 hx hret (by decide) rfl hlk (hb hby own_d_m2_21) (by rw [e105]; exact (⟨b104, u105, rfl, N105, KK105, sz_b104, sz_u105, (Ne.symm uc105), (by simpa [own_tok, hc2_101] using Fs105)⟩)) (by decide) (by decide)
  · skip
    refine own_to (V := s₁.setTop (mkF m 23 #[.val (.int wn), .val (.int wa), .val (.int wb), .unset] [(.int (2 : Int32))])) ?_ fun t k => (by
      refine XS.icmpYes X0.here hx rfl (pc0 := 2) (pc' := 22) rfl (hb hby own_d_m2_2) rfl (feq (hc2_101 : ¬ (wn = (1 : Int32)))).2 (by decide) (by decide) ?_
      refine XS.iconst X0.here hx rfl (hb hby own_d_m2_22) ?_
      exact k)
    obtain ⟨T107, h107, k107, X107, e107, E107, A107, st107⟩ := newP X0 hx hZ (hw _ (List.mem_of_getElem? (i := 4) rfl)) e0 (g := (mkF m 23 #[.val (.int wn), .val (.int wa), .val (.int wb), .unset] [(.int (2 : Int32))])) rfl (hb hby own_d_m2_23) rfl (by decide) (cap := 2) (by decide) (by decide) (by decide) (by decide)
    obtain ⟨b107, g107⟩ : ∃ z, z = h0.size := ⟨_, rfl⟩
    rw [← g107] at A107 st107
    have Xo107 : Old Z n0 h107 := X00.ext E107
    have KK107 : Keep h0 h107 [] := KK0.ext E107
    have ge_b107 : n0 ≤ b107 := Nat.le_trans (own_ole X00) (Nat.le_of_eq g107.symm)
    have sz_b107 : h0.size ≤ b107 := Nat.le_trans KK0.1 (Nat.le_of_eq g107.symm)
    have V107 : Arv Z h107 b107 k107 .char (2 : Int32) [(.int (0 : Int32)), (.int (0 : Int32))] (.int (0 : Int32)) := (Arv.new A107 (by decide)).pad (pad_rep [] (.int (0 : Int32)) 2)
    refine own_to (V := T107.setTop (mkF m 25 #[.val (.int wn), .val (.int wa), .val (.int wb), .unset] [(.ref b107)])) ?_ st107
    refine own_to (V := T107.setTop (mkF m 29 #[.val (.int wn), .val (.int wa), .val (.int wb), .val (.ref b107)] [(.int wa), (.int (0 : Int32)), (.ref b107)])) ?_ fun t k => (by
      refine XS.astoreN X107.here hx rfl (hb hby own_d_m2_25) rfl rfl (l' := #[.val (.int wn), .val (.int wa), .val (.int wb), .val (.ref b107)]) rfl ?_
      refine XS.aloadN X107.here hx rfl (hb hby own_d_m2_26) rfl rfl ?_
      refine XS.iconst X107.here hx rfl (hb hby own_d_m2_27) ?_
      refine XS.iloadN X107.here hx rfl (hb hby own_d_m2_28) rfl ?_
      exact k)
    obtain ⟨cl108, Ar108, q108, S108, M108, H108, G108⟩ := id V107
    obtain ⟨T108, h108, X108, e108, W108, st108⟩ := stC X107 hx hZ e107 Ar108 (j := (0 : Int32)) (inb_of S108 ⟨by decide, by decide⟩) (g := (mkF m 29 #[.val (.int wn), .val (.int wa), .val (.int wb), .val (.ref b107)] [(.int wa), (.int (0 : Int32)), (.ref b107)])) rfl rfl (hb hby own_d_m2_29)
    rw [own_narC (own_up ha)] at W108
    have Xo108 : Old Z n0 h108 := Xo107.wr W108 ge_b107
    have KK108 : Keep h0 h108 [] := KK107.wr W108 (Or.inr sz_b107)
    have V108 : Arv Z h108 b107 k107 .char (2 : Int32) [(.int wa), (.int (0 : Int32))] (.int (0 : Int32)) := Arv.set Ar108 q108 S108 M108 H108 G108 (own_fitC (own_up ha)) W108 0 rfl (Nat.le_of_ble_eq_true rfl)
    have N108 := Fr.snoc X108 N0 ge_b107
    refine own_to (V := T108.setTop (mkF m 30 #[.val (.int wn), .val (.int wa), .val (.int wb), .val (.ref b107)] [])) ?_ st108
    refine own_to (V := T108.setTop (mkF m 33 #[.val (.int wn), .val (.int wa), .val (.int wb), .val (.ref b107)] [(.int wb), (.int (1 : Int32)), (.ref b107)])) ?_ fun t k => (by
      refine XS.aloadN X108.here hx rfl (hb hby own_d_m2_30) rfl rfl ?_
      refine XS.iconst X108.here hx rfl (hb hby own_d_m2_31) ?_
      refine XS.iloadN X108.here hx rfl (hb hby own_d_m2_32) rfl ?_
      exact k)
    obtain ⟨cl109, Ar109, q109, S109, M109, H109, G109⟩ := id V108
    obtain ⟨T109, h109, X109, e109, W109, st109⟩ := stC X108 hx hZ e108 Ar109 (j := (1 : Int32)) (inb_of S109 ⟨by decide, by decide⟩) (g := (mkF m 33 #[.val (.int wn), .val (.int wa), .val (.int wb), .val (.ref b107)] [(.int wb), (.int (1 : Int32)), (.ref b107)])) rfl rfl (hb hby own_d_m2_33)
    rw [own_narC (own_up hbb)] at W109
    have Xo109 : Old Z n0 h109 := Xo108.wr W109 ge_b107
    have KK109 : Keep h0 h109 [] := KK108.wr W109 (Or.inr sz_b107)
    have V109 : Arv Z h109 b107 k107 .char (2 : Int32) [(.int wa), (.int wb)] (.int (0 : Int32)) := Arv.set Ar109 q109 S109 M109 H109 G109 (own_fitC (own_up hbb)) W109 1 rfl (Nat.le_of_ble_eq_true rfl)
    have N109 := Fr.snoc X109 N108 ge_b107
    refine own_to (V := T109.setTop (mkF m 34 #[.val (.int wn), .val (.int wa), .val (.int wb), .val (.ref b107)] [])) ?_ st109
    obtain ⟨T110, h110, X110, e110, E110, A110, D110, U110, st110⟩ := newO X109 hx hZ hown (hw _ (List.mem_of_getElem? (i := 5) rfl)) (hw _ (List.mem_of_getElem? (i := 6) rfl)) (hw _ (List.mem_of_getElem? (i := 7) rfl)) e109 (g := (mkF m 34 #[.val (.int wn), .val (.int wa), .val (.int wb), .val (.ref b107)] [])) rfl (hb hby own_d_m2_34) (by decide) (by decide)
    obtain ⟨b110, g110⟩ : ∃ z, z = h109.size := ⟨_, rfl⟩
    rw [← g110] at A110 D110 U110 st110
    have Xo110 : Old Z n0 h110 := Xo109.ext E110
    have KK110 : Keep h0 h110 [] := KK109.ext E110
    have ge_b110 : n0 ≤ b110 := Nat.le_trans (own_ole Xo109) (Nat.le_of_eq g110.symm)
    have sz_b110 : h0.size ≤ b110 := Nat.le_trans KK109.1 (Nat.le_of_eq g110.symm)
    have Fi110_31 : Fld Z h110 b110 "java/lang/String" "coder" "B" (.int (0 : Int32)) := D110 (Or.inr (hw _ (List.mem_of_getElem? (i := 31) rfl))) (ty := .byte) (by decide)
    have Fi110_33 : Fld Z h110 b110 "java/lang/String" "value" "[B" .null := D110 (Or.inr (hw _ (List.mem_of_getElem? (i := 33) rfl))) (ty := (.array .byte)) (by decide)
    refine own_to (V := T110.setTop (mkF m 37 #[.val (.int wn), .val (.int wa), .val (.int wb), .val (.ref b107)] [(.ref b110)])) ?_ st110
    refine own_to (V := T110.setTop (mkF m 39 #[.val (.int wn), .val (.int wa), .val (.int wb), .val (.ref b107)] [(.ref b107), (.ref b110), (.ref b110)])) ?_ fun t k => (by
      refine XS.dup X110.here hx rfl (hb hby own_d_m2_37) rfl rfl ?_
      refine XS.aloadN X110.here hx rfl (hb hby own_d_m2_38) rfl rfl ?_
      exact k)
    have F112 : Arv Z h110 b107 k107 .char (2 : Int32) [(.int wa), (.int wb)] (.int (0 : Int32)) := (V109.ext E110)
    obtain ⟨_, _, ⟨T111, L111, k111, n111⟩, -, X111, ⟨Lc111, hQ111, l111, y111, z111⟩, st111⟩ := X110.specialBack hx (y := (⟨"java/lang/String", "<init>", "([C)V"⟩ : MethodName)) rfl hown (mvT hZ (hw _ (List.mem_of_getElem? (i := 8) rfl))) (mvT hZ (hw _ (List.mem_of_getElem? (i := 9) rfl))) (mvT hZ (hw _ (List.mem_of_getElem? (i := 10) rfl))) (by decide) (StrChars.Road.backV (W := 1) hZ (own_hws hw) (kI := 4) (hw _ (List.mem_of_getElem? (i := 6) rfl)) (cs := ([wa, wb] : List Int32)) (bs := ([wa, wb] : List Int32).map (fun c => c.toInt8.toInt32)) (n := 2) ge_b110 (own_ole Xo110) A110 Fi110_33 Fi110_31 F112 (O2.ext Xo110.2) P5 rfl rfl (by decide) (by decide) (own_allS ha (own_allS hbb own_all0)) rfl (by decide) (by decide)) (g := (mkF m 39 #[.val (.int wn), .val (.int wa), .val (.int wb), .val (.ref b107)] [(.ref b107), (.ref b110), (.ref b110)])) rfl (by rw [hml]; rfl) (Steps.refl _) (a := b110) (argsL := [(.ref b107)]) (rest := [(.ref b110)]) (lenOf own_pd0 rfl) rfl (by show 2 * 0 + _ ≤ _; exact Nat.le_of_eq rfl) (hb hby own_d_m2_39) (fun _ _ => ⟨rfl, e110, (by decide : 2 + 1 ≤ _), (by decide : 6 + 2 ≤ _)⟩)
    dsimp only [Pt.U, Pt.locs, Pt.cells, Pt.slots] at X111 l111 y111 z111 st111 hQ111
    subst l111 y111 z111
    obtain ⟨hv111, N111q, K111, gE111, gC111, u111, kb111, ua111, ub111, uc111, gV111, gK111⟩ := hQ111
    subst hv111
    obtain ⟨h111, e111⟩ : ∃ z, T111.heap = z := ⟨_, rfl⟩
    rw [e111] at K111 gE111 gC111 gV111 gK111
    have Xo111 : Old Z n0 h111 := Xo110.keep K111 (allS ge_b110 all0)
    have KK111 : Keep h0 h111 [] := KK110.trans K111 (allS (Or.inr sz_b110) all0)
    have N111 := Fr.app N109 N111q
    have ge_u111 : n0 ≤ u111 := Nat.le_trans (own_ole Xo110) ub111
    have sz_u111 : h0.size ≤ u111 := Nat.le_trans KK110.1 ub111
    have Fs111 : own_Str Z h111 b110 u111 ([wa, wb] : List Int32) := own_mkStr0 gE111 gV111 gC111 gK111 rfl (own_allS ha (own_allS hbb own_all0)) (Nat.le_of_ble_eq_true rfl)
    refine own_to (V := T111.setTop (mkF m 42 #[.val (.int wn), .val (.int wa), .val (.int wb), .val (.ref b107)] [(.ref b110)])) ?_ (fun t k => st111.trans k)
    exact own_retR X111 hx hret (by decide) rfl hlk (hb hby own_d_m2_42) (by rw [e111]; exact (⟨b110, u111, rfl, N111, KK111, sz_b110, sz_u111, (Ne.symm uc111), (by simpa [own_tok, hc2_101] using Fs111)⟩)) (by decide) (by decide)
def own_Qrnn (Z : State) (oa : Addr) (om : Addr) (h0 : Heap) (n0 : Nat) (v : Option Value) (h : Heap) (L : List Loc) : Prop := (v = some (.ref oa) ∧ Fr n0 L ∧ Keep h0 h [])
theorem own_ef_rnn (m : MethodId) (oa : Addr) (om : Addr)  : entryFrame m #[(.ref oa), (.ref om)] 2 = mkF m 0 #[.val (.ref oa), .val (.ref om)] [] := by first | (simp [entryFrame, mkF, argsToLocals, Value.category]; done) | rfl
set_option maxRecDepth 65536 in
set_option maxHeartbeats 40000000 in
theorem own_rmrnn (l : Launch) (Z : State) (a0 : Array Value) (hw : ∀ d ∈ tables_1, d.before a0 Z = true) (hst : own_St Z) (ws : List Jvm.Cond) (oa : Addr) (om : Addr) (h0 : Heap) (n0 : Nat) (X00 : Old Z n0 h0)  :
    MetFree l (⟨"java/util/Objects", "requireNonNull", "(Ljava/lang/Object;Ljava/lang/String;)Ljava/lang/Object;"⟩ : MethodName) (head1 (Jvm.Cond.code (⟨"java/util/Objects", "requireNonNull", "(Ljava/lang/Object;Ljava/lang/String;)Ljava/lang/Object;"⟩ : MethodName) jdk_31_method_11_code 2 (Option.some (Jvm.ClassFile.FieldType.object "java/lang/Object")) :: ws) ({ frames := 0, cells := 0, slots := 0, locals := 0 } : Room)) (fun a U => a = #[(.ref oa), (.ref om)] ∧ Z.Warmed39 U.vm ∧ U.heap = h0) (fun _ _ _ _ _ => True) (fun _ U o U' => ∃ v L, o = .returned v ∧ own_Qrnn Z oa om h0 n0 v U'.heap L ∧ FrameEnd U o U' L ({ frames := 0, cells := 0, slots := 0, locals := 0 } : Room).cells ({ frames := 0, cells := 0, slots := 0, locals := 0 } : Room).slots) := by
  refine MetFree.of_bodySF (plainFor_of_name own_pn1) hisR ?_
  intro p e s m args below meth c s₁ Bd hml0 hP hK
  obtain ⟨rfl, hZ, hh⟩ := hP
  have hx := Bd.exec
  have hby := Bd.bytes
  have hret := Bd.returns
  have hlk : meth.locks = false := BodyLoose.notSynchronized Bd
  have hml : c.maxLocals = 2 := hml0
  have hown : s.vm.findClass "java/util/Objects" = some m.cls := findClass_of_methodNamed Bd.named
  have hnm := (name_of_methodNamed Bd.named Bd.method).1
  have X0 : Stand p l e ({ frames := 0, cells := 0, slots := 0, locals := 0 } : Room) s m #[(.ref oa), (.ref om)] below meth c s₁ [] 0 0 := Stand.of_body Bd
  have e0 : s₁.heap = h0 := by rw [← hh, Bd.state]; rfl
  have N0 := Fr.nil n0
  have KK0 : Keep h0 h0 [] := Keep.refl h0 _
  refine own_start (own_Qrnn Z oa om h0 n0) ?_
  refine own_to (V := s₁.setTop (mkF m 0 #[.val (.ref oa), .val (.ref om)] [])) ?_ (fun t k => castTop (own_ef_rnn m oa om ) k)
  obtain ⟨⟨G1, O2, P5⟩, ⟨G3, O4, rG3⟩, ⟨iC, iL, iO1, iO2, iA, iE⟩, -⟩ := id hst
  refine own_to (V := s₁.setTop (mkF m 14 #[.val (.ref oa), .val (.ref om)] [(.ref oa)])) ?_ fun t k => (by
    refine XS.aloadN X0.here hx rfl (hb hby own_d_jdk_31_m11_0) rfl rfl ?_
    refine XS.ifnonnullYes X0.here hx rfl (pc0 := 1) (pc' := 13) rfl (hb hby own_d_jdk_31_m11_1) rfl (by decide) (by decide) ?_
    refine XS.aloadN X0.here hx rfl (hb hby own_d_jdk_31_m11_13) rfl rfl ?_
    exact k)
  exact own_retR X0 hx hret (by decide) rfl hlk (hb hby own_d_jdk_31_m11_14) (by rw [e0]; exact (⟨rfl, N0, KK0⟩)) (by decide) (by decide)
def own_Qini (Z : State) (ot : Addr) (owa : Addr) (owb : Addr) (oua : Addr) (oub : Addr) (cs : List Int32) (ds : List Int32) (h0 : Heap) (n0 : Nat) (v : Option Value) (h : Heap) (L : List Loc) : Prop := (v = none ∧ Fr n0 L ∧ Keep h0 h [ot] ∧ (Fld Z h ot "com/example/eager_query/eagerquery/model/Token" "word" "Ljava/lang/String;" (.ref owa)) ∧ (Fld Z h ot "com/example/eager_query/eagerquery/model/Token" "tag" "Ljava/lang/String;" (.ref owb)))
theorem own_ef_ini (m : MethodId) (ot : Addr) (owa : Addr) (owb : Addr)  : entryFrame m #[(.ref ot), (.ref owa), (.ref owb)] 3 = mkF m 0 #[.val (.ref ot), .val (.ref owa), .val (.ref owb)] [] := by first | (simp [entryFrame, mkF, argsToLocals, Value.category]; done) | rfl
set_option maxRecDepth 65536 in
set_option maxHeartbeats 40000000 in
theorem own_rmini (l : Launch) (Z : State) (a0 : Array Value) (hw : ∀ d ∈ tables_1, d.before a0 Z = true) (hst : own_St Z) (ws : List Jvm.Cond) (ot : Addr) (owa : Addr) (owb : Addr) (oua : Addr) (oub : Addr) (cs : List Int32) (ds : List Int32) (h0 : Heap) (n0 : Nat) (X00 : Old Z n0 h0) (hE : Exa Z h0 ot "com/example/eager_query/eagerquery/model/Token") (hF1 : Fld Z h0 ot "com/example/eager_query/eagerquery/model/Token" "word" "Ljava/lang/String;" .null) (hF2 : Fld Z h0 ot "com/example/eager_query/eagerquery/model/Token" "tag" "Ljava/lang/String;" .null) (hG : n0 ≤ ot) (hSa : own_Str Z h0 owa oua cs) (hSb : own_Str Z h0 owb oub ds) (hl1 : ¬ cs.length = 0) (hl2 : ¬ ds.length = 0) :
    MetFree l (⟨"com/example/eager_query/eagerquery/model/Token", "<init>", "(Ljava/lang/String;Ljava/lang/String;)V"⟩ : MethodName) (head1 (Jvm.Cond.code (⟨"com/example/eager_query/eagerquery/model/Token", "<init>", "(Ljava/lang/String;Ljava/lang/String;)V"⟩ : MethodName) prog_22_method_1_code 3 (Option.none : Option Jvm.ClassFile.FieldType) :: ws) ({ frames := 1, cells := 4, slots := 36, locals := 13 } : Room)) (fun a U => a = #[(.ref ot), (.ref owa), (.ref owb)] ∧ Z.Warmed39 U.vm ∧ U.heap = h0) (fun _ _ _ _ _ => True) (fun _ U o U' => ∃ v L, o = .returned v ∧ own_Qini Z ot owa owb oua oub cs ds h0 n0 v U'.heap L ∧ ReturnedEndW U o U' L ({ frames := 1, cells := 4, slots := 36, locals := 13 } : Room).cells ({ frames := 1, cells := 4, slots := 36, locals := 13 } : Room).slots) := by
  refine MetFree.of_bodySF (plainFor_of_name own_pn2) hisR ?_
  intro p e s m args below meth c s₁ Bd hml0 hP hK
  obtain ⟨rfl, hZ, hh⟩ := hP
  have hx := Bd.exec
  have hby := Bd.bytes
  have hret := Bd.returns
  have hlk : meth.locks = false := BodyLoose.notSynchronized Bd
  have hml : c.maxLocals = 3 := hml0
  have hown : s.vm.findClass "com/example/eager_query/eagerquery/model/Token" = some m.cls := findClass_of_methodNamed Bd.named
  have hnm := (name_of_methodNamed Bd.named Bd.method).1
  have X0 : Stand p l e ({ frames := 1, cells := 4, slots := 36, locals := 13 } : Room) (s.setVm s.vm) m #[(.ref ot), (.ref owa), (.ref owb)] below meth c s₁ [] 0 0 := Stand.of_body Bd
  have e0 : s₁.heap = h0 := by rw [← hh, Bd.state]; rfl
  have N0 := Fr.nil n0
  have KK0 : Keep h0 h0 [ot] := Keep.refl h0 _
  have hS0 : s.Since s.vm 0 := (State.WarmedH.refl s).since 0
  have hk0 : 0 ≤ h0.size := Nat.zero_le _
  refine own_startW (own_Qini Z ot owa owb oua oub cs ds h0 n0) ?_
  refine own_to (V := s₁.setTop (mkF m 0 #[.val (.ref ot), .val (.ref owa), .val (.ref owb)] [])) ?_ (fun t k => castTop (own_ef_ini m ot owa owb ) k)
  obtain ⟨⟨G1, O2, P5⟩, ⟨G3, O4, rG3⟩, ⟨iC, iL, iO1, iO2, iA, iE⟩, -⟩ := id hst
  refine own_to (V := s₁.setTop (mkF m 1 #[.val (.ref ot), .val (.ref owa), .val (.ref owb)] [(.ref ot)])) ?_ fun t k => (by
    refine XS.aloadN X0.here hx rfl (hb hby own_d_prog_22_m1_0) rfl rfl ?_
    exact k)
  obtain ⟨T101, X101, e101, st101⟩ := initO X0 hx hZ hown (hw _ (List.mem_of_getElem? (i := 40) rfl)) (hw _ (List.mem_of_getElem? (i := 16) rfl)) (hw _ (List.mem_of_getElem? (i := 17) rfl)) e0 (g := (mkF m 1 #[.val (.ref ot), .val (.ref owa), .val (.ref owb)] [(.ref ot)])) rfl (by rw [hml]; rfl) rfl (hb hby own_d_prog_22_m1_1) (by decide) (W := 0) (by show 2 * 0 + _ ≤ _; exact Nat.le_of_eq rfl) (by decide)
  refine own_to (V := T101.setTop (mkF m 4 #[.val (.ref ot), .val (.ref owa), .val (.ref owb)] [])) ?_ st101
  refine own_to (V := T101.setTop (mkF m 5 #[.val (.ref ot), .val (.ref owa), .val (.ref owb)] [(.ref owa)])) ?_ fun t k => (by
    refine XS.aloadN X101.here hx rfl (hb hby own_d_prog_22_m1_4) rfl rfl ?_
    exact k)
  obtain ⟨s102, T102, h102, k102, X102, e102, E102, hS102, hk102, hZ102, hown102, st102⟩ := ldcS X101 hx hZ hown (hw _ (List.mem_of_getElem? (i := 41) rfl)) (own_hsa hw) e101 hS0 hk0 (g := (mkF m 5 #[.val (.ref ot), .val (.ref owa), .val (.ref owb)] [(.ref owa)])) rfl (hb hby own_d_prog_22_m1_5) (n := 16) (by decide) (by decide) (by decide) (by decide)
  have Xo102 : Old Z n0 h102 := X00.ext E102
  have KK102 : Keep h0 h102 [ot] := KK0.ext E102
  refine own_to (V := T102.setTop (mkF m 7 #[.val (.ref ot), .val (.ref owa), .val (.ref owb)] [(.ref s102), (.ref owa)])) ?_ st102
  obtain ⟨_, _, ⟨T103, L103, k103, n103⟩, -, X103, ⟨Lc103, hQ103, l103, y103, z103⟩, st103⟩ := Jvm.LawKit.callS X102 hx (y := (⟨"java/util/Objects", "requireNonNull", "(Ljava/lang/Object;Ljava/lang/String;)Ljava/lang/Object;"⟩ : MethodName)) hown102 (mvT hZ102 (hw _ (List.mem_of_getElem? (i := 44) rfl))) (mvT hZ102 (hw _ (List.mem_of_getElem? (i := 45) rfl))) (mvT hZ102 (hw _ (List.mem_of_getElem? (i := 46) rfl))) (mvT hZ102 (hw _ (List.mem_of_getElem? (i := 47) rfl))) (by decide) (backOf (W := 0) (own_rmrnn l Z a0 hw hst [] owa s102 h102 n0 Xo102 ) hZ102 (hw _ (List.mem_of_getElem? (i := 47) rfl)) (hw _ (List.mem_of_getElem? (i := 46) rfl)) (by decide) (by decide)) (g := (mkF m 7 #[.val (.ref ot), .val (.ref owa), .val (.ref owb)] [(.ref s102), (.ref owa)])) rfl (by rw [hml]; rfl) (argsL := [(.ref owa), (.ref s102)]) (rest := []) (lenOf own_pd1 rfl) rfl (by show 2 * 0 + _ ≤ _; exact Nat.le_of_eq rfl) (hb hby own_d_prog_22_m1_7) (fun _ _ => ⟨rfl, e102, (by decide : 2 + 0 ≤ _), (by decide : 20 + 0 ≤ _)⟩)
  dsimp only [Pt.U, Pt.locs, Pt.cells, Pt.slots] at X103 l103 y103 z103 st103 hQ103
  subst l103 y103 z103
  obtain ⟨hv103, N103q, K103⟩ := hQ103
  subst hv103
  obtain ⟨h103, e103⟩ : ∃ z, T103.heap = z := ⟨_, rfl⟩
  rw [e103] at K103
  have Xo103 : Old Z n0 h103 := Xo102.keep K103 all0
  have KK103 : Keep h0 h103 [ot] := KK102.trans K103 all0
  have N103 := Fr.app N0 N103q
  refine own_to (V := T103.setTop (mkF m 10 #[.val (.ref ot), .val (.ref owa), .val (.ref owb)] [(.ref owa)])) ?_ st103
  refine own_to (V := T103.setTop (mkF m 12 #[.val (.ref ot), .val (.ref owa), .val (.ref owb)] [(.ref owb)])) ?_ fun t k => (by
    refine XS.pop X103.here hx rfl (hb hby own_d_prog_22_m1_10) rfl rfl ?_
    refine XS.aloadN X103.here hx rfl (hb hby own_d_prog_22_m1_11) rfl rfl ?_
    exact k)
  obtain ⟨s104, T104, h104, k104, X104, e104, E104, hS104, hk104, hZ104, hown104, st104⟩ := ldcS X103 hx hZ102 hown102 (hw _ (List.mem_of_getElem? (i := 48) rfl)) (own_hsa hw) e103 hS102 (Nat.le_trans hk102 K103.1) (g := (mkF m 12 #[.val (.ref ot), .val (.ref owa), .val (.ref owb)] [(.ref owb)])) rfl (hb hby own_d_prog_22_m1_12) (n := 12) (by decide) (by decide) (by decide) (by decide)
  have Xo104 : Old Z n0 h104 := Xo103.ext E104
  have KK104 : Keep h0 h104 [ot] := KK103.ext E104
  refine own_to (V := T104.setTop (mkF m 14 #[.val (.ref ot), .val (.ref owa), .val (.ref owb)] [(.ref s104), (.ref owb)])) ?_ st104
  obtain ⟨_, _, ⟨T105, L105, k105, n105⟩, -, X105, ⟨Lc105, hQ105, l105, y105, z105⟩, st105⟩ := Jvm.LawKit.callS X104 hx (y := (⟨"java/util/Objects", "requireNonNull", "(Ljava/lang/Object;Ljava/lang/String;)Ljava/lang/Object;"⟩ : MethodName)) hown104 (mvT hZ104 (hw _ (List.mem_of_getElem? (i := 44) rfl))) (mvT hZ104 (hw _ (List.mem_of_getElem? (i := 45) rfl))) (mvT hZ104 (hw _ (List.mem_of_getElem? (i := 46) rfl))) (mvT hZ104 (hw _ (List.mem_of_getElem? (i := 47) rfl))) (by decide) (backOf (W := 0) (own_rmrnn l Z a0 hw hst [] owb s104 h104 n0 Xo104 ) hZ104 (hw _ (List.mem_of_getElem? (i := 47) rfl)) (hw _ (List.mem_of_getElem? (i := 46) rfl)) (by decide) (by decide)) (g := (mkF m 14 #[.val (.ref ot), .val (.ref owa), .val (.ref owb)] [(.ref s104), (.ref owb)])) rfl (by rw [hml]; rfl) (argsL := [(.ref owb), (.ref s104)]) (rest := []) (lenOf own_pd1 rfl) rfl (by show 2 * 0 + _ ≤ _; exact Nat.le_of_eq rfl) (hb hby own_d_prog_22_m1_14) (fun _ _ => ⟨rfl, e104, (by decide : 4 + 0 ≤ _), (by decide : 36 + 0 ≤ _)⟩)
  dsimp only [Pt.U, Pt.locs, Pt.cells, Pt.slots] at X105 l105 y105 z105 st105 hQ105
  subst l105 y105 z105
  obtain ⟨hv105, N105q, K105⟩ := hQ105
  subst hv105
  obtain ⟨h105, e105⟩ : ∃ z, T105.heap = z := ⟨_, rfl⟩
  rw [e105] at K105
  have Xo105 : Old Z n0 h105 := Xo104.keep K105 all0
  have KK105 : Keep h0 h105 [ot] := KK104.trans K105 all0
  have N105 := Fr.app N103 N105q
  refine own_to (V := T105.setTop (mkF m 17 #[.val (.ref ot), .val (.ref owa), .val (.ref owb)] [(.ref owb)])) ?_ st105
  refine own_to (V := T105.setTop (mkF m 19 #[.val (.ref ot), .val (.ref owa), .val (.ref owb)] [(.ref owa)])) ?_ fun t k => (by
    refine XS.pop X105.here hx rfl (hb hby own_d_prog_22_m1_17) rfl rfl ?_
    refine XS.aloadN X105.here hx rfl (hb hby own_d_prog_22_m1_18) rfl rfl ?_
    exact k)
  have F108 : own_Str Z h105 owa oua cs := ((((hSa.ext E102).keep K103 List.not_mem_nil List.not_mem_nil).ext E104).keep K105 List.not_mem_nil List.not_mem_nil)
  obtain ⟨sE107, sd107, sN107, sk107, sv107, sV107, sC107, sK107, sc107, sb107, sl107⟩ := id F108
  obtain ⟨cq106, kq106, q106a, q106b, q106c⟩ := isOf hZ104 e105 F108.1
  obtain ⟨_, _, ⟨T106, L106, k106, n106⟩, -, X106, ⟨Lc106, hQ106, l106, y106, z106⟩, st106⟩ := X105.virtualBack hx (y := (⟨"java/lang/String", "isEmpty", "()Z"⟩ : MethodName)) (z := (⟨"java/lang/String", "isEmpty", "()Z"⟩ : MethodName)) hown104 (mvT hZ104 (hw _ (List.mem_of_getElem? (i := 49) rfl))) (mvT hZ104 (hw _ (List.mem_of_getElem? (i := 50) rfl))) (notFace_of_selects (args := #[]) (mvT hZ104 (hw _ (List.mem_of_getElem? (i := 52) rfl)))) (mvT hZ104 (hw _ (List.mem_of_getElem? (i := 52) rfl))) (mvT hZ104 (hw _ (List.mem_of_getElem? (i := 51) rfl))) (by decide) (StrChars.Road.empW (W := 0) hZ104 (own_hem hw) (kI := 4) (hw _ (List.mem_of_getElem? (i := 6) rfl)) sE107 sV107 sC107 sK107 sc107 sb107 sl107 (by decide) (by decide)) q106a q106c (g := (mkF m 19 #[.val (.ref ot), .val (.ref owa), .val (.ref owb)] [(.ref owa)])) rfl (by rw [hml]; rfl) (Steps.refl _) (argsL := []) (rest := []) (lenOf own_pd2 rfl) rfl (by show 2 * 0 + _ ≤ _; exact Nat.le_of_eq rfl) (hb hby own_d_prog_22_m1_19) (fun _ _ => ⟨rfl, e105, (by decide : 4 + 0 ≤ _), (by decide : 36 + 0 ≤ _)⟩)
  dsimp only [Pt.U, Pt.locs, Pt.cells, Pt.slots] at X106 l106 y106 z106 st106 hQ106
  subst l106 y106 z106
  obtain ⟨hv106, hL106, hh106⟩ := hQ106
  subst hL106
  rw [if_neg hl1] at hv106
  subst hv106
  have N106 := Fr.app N105 (Fr.nil n0)
  refine own_to (V := T106.setTop (mkF m 22 #[.val (.ref ot), .val (.ref owa), .val (.ref owb)] [(.int (0 : Int32))])) ?_ (fun t k => st106.trans k)
  refine own_to (V := T106.setTop (mkF m 26 #[.val (.ref ot), .val (.ref owa), .val (.ref owb)] [(.ref owb)])) ?_ fun t k => (by
    refine XS.ifNo X106.here hx rfl (hb hby own_d_prog_22_m1_22) rfl ((if0 _ _).trans (teq ((by decide) : (0 : Int32) = (0 : Int32))).2) ?_
    refine XS.aloadN X106.here hx rfl (hb hby own_d_prog_22_m1_25) rfl rfl ?_
    exact k)
  have F111 : own_Str Z h105 owb oub ds := ((((hSb.ext E102).keep K103 List.not_mem_nil List.not_mem_nil).ext E104).keep K105 List.not_mem_nil List.not_mem_nil)
  obtain ⟨sE110, sd110, sN110, sk110, sv110, sV110, sC110, sK110, sc110, sb110, sl110⟩ := id F111
  obtain ⟨cq109, kq109, q109a, q109b, q109c⟩ := isOf hZ104 hh106 F111.1
  obtain ⟨_, _, ⟨T109, L109, k109, n109⟩, -, X109, ⟨Lc109, hQ109, l109, y109, z109⟩, st109⟩ := X106.virtualBack hx (y := (⟨"java/lang/String", "isEmpty", "()Z"⟩ : MethodName)) (z := (⟨"java/lang/String", "isEmpty", "()Z"⟩ : MethodName)) hown104 (mvT hZ104 (hw _ (List.mem_of_getElem? (i := 49) rfl))) (mvT hZ104 (hw _ (List.mem_of_getElem? (i := 50) rfl))) (notFace_of_selects (args := #[]) (mvT hZ104 (hw _ (List.mem_of_getElem? (i := 52) rfl)))) (mvT hZ104 (hw _ (List.mem_of_getElem? (i := 52) rfl))) (mvT hZ104 (hw _ (List.mem_of_getElem? (i := 51) rfl))) (by decide) (StrChars.Road.empW (W := 0) hZ104 (own_hem hw) (kI := 4) (hw _ (List.mem_of_getElem? (i := 6) rfl)) sE110 sV110 sC110 sK110 sc110 sb110 sl110 (by decide) (by decide)) q109a q109c (g := (mkF m 26 #[.val (.ref ot), .val (.ref owa), .val (.ref owb)] [(.ref owb)])) rfl (by rw [hml]; rfl) (Steps.refl _) (argsL := []) (rest := []) (lenOf own_pd2 rfl) rfl (by show 2 * 0 + _ ≤ _; exact Nat.le_of_eq rfl) (hb hby own_d_prog_22_m1_26) (fun _ _ => ⟨rfl, hh106, (by decide : 4 + 0 ≤ _), (by decide : 36 + 0 ≤ _)⟩)
  dsimp only [Pt.U, Pt.locs, Pt.cells, Pt.slots] at X109 l109 y109 z109 st109 hQ109
  subst l109 y109 z109
  obtain ⟨hv109, hL109, hh109⟩ := hQ109
  subst hL109
  rw [if_neg hl2] at hv109
  subst hv109
  have N109 := Fr.app N106 (Fr.nil n0)
  refine own_to (V := T109.setTop (mkF m 29 #[.val (.ref ot), .val (.ref owa), .val (.ref owb)] [(.int (0 : Int32))])) ?_ (fun t k => st109.trans k)
  refine own_to (V := T109.setTop (mkF m 44 #[.val (.ref ot), .val (.ref owa), .val (.ref owb)] [(.ref owa), (.ref ot)])) ?_ fun t k => (by
    refine XS.ifYes X109.here hx rfl (pc0 := 29) (pc' := 42) rfl (hb hby own_d_prog_22_m1_29) rfl ((if0 _ _).trans (teq ((by decide) : (0 : Int32) = (0 : Int32))).1) (by decide) (by decide) ?_
    refine XS.aloadN X109.here hx rfl (hb hby own_d_prog_22_m1_42) rfl rfl ?_
    refine XS.aloadN X109.here hx rfl (hb hby own_d_prog_22_m1_43) rfl rfl ?_
    exact k)
  have F112 : Exa Z h105 ot "com/example/eager_query/eagerquery/model/Token" := ((((hE.ext E102).keep K103).ext E104).keep K105)
  have F113 : Fld Z h105 ot "com/example/eager_query/eagerquery/model/Token" "word" "Ljava/lang/String;" .null := ((((hF1.ext E102).keep K103 List.not_mem_nil).ext E104).keep K105 List.not_mem_nil)
  obtain ⟨T114, h114, X114, e114, W114, st114⟩ := putF X109 hx hZ104 hown104 (host := "") (Or.inl (hw _ (List.mem_of_getElem? (i := 54) rfl))) Via.refl hh109 F113 F112 (Or.inr ⟨(hw _ (List.mem_of_getElem? (i := 55) rfl)), rfl, hnm⟩) (hw _ (List.mem_of_getElem? (i := 35) rfl)) (ty := (.object "java/lang/String")) (by decide) rfl rfl (g := (mkF m 44 #[.val (.ref ot), .val (.ref owa), .val (.ref owb)] [(.ref owa), (.ref ot)])) rfl rfl (hb hby own_d_prog_22_m1_44)
  have Xo114 : Old Z n0 h114 := Xo105.wr W114 hG
  have KK114 : Keep h0 h114 [ot] := KK105.wr W114 (Or.inl (List.mem_of_getElem? (i := 0) rfl))
  have Fw114 : Fld Z h114 ot "com/example/eager_query/eagerquery/model/Token" "word" "Ljava/lang/String;" (.ref owa) := F113.same W114
  have N114 := Fr.snoc X114 N109 hG
  refine own_to (V := T114.setTop (mkF m 47 #[.val (.ref ot), .val (.ref owa), .val (.ref owb)] [])) ?_ st114
  refine own_to (V := T114.setTop (mkF m 49 #[.val (.ref ot), .val (.ref owa), .val (.ref owb)] [(.ref owb), (.ref ot)])) ?_ fun t k => (by
    refine XS.aloadN X114.here hx rfl (hb hby own_d_prog_22_m1_47) rfl rfl ?_
    refine XS.aloadN X114.here hx rfl (hb hby own_d_prog_22_m1_48) rfl rfl ?_
    exact k)
  have F115 : Exa Z h114 ot "com/example/eager_query/eagerquery/model/Token" := (F112.wr W114)
  have F116 : Fld Z h114 ot "com/example/eager_query/eagerquery/model/Token" "tag" "Ljava/lang/String;" .null := (((((hF2.ext E102).keep K103 List.not_mem_nil).ext E104).keep K105 List.not_mem_nil).other W114 (Or.inr (slot_ne (Or.inr (hw _ (List.mem_of_getElem? (i := 57) rfl))) (Or.inr (hw _ (List.mem_of_getElem? (i := 55) rfl))) (by decide) (t := (.object "java/lang/String")) (t' := (.object "java/lang/String")) (by decide) (by decide))))
  obtain ⟨T117, h117, X117, e117, W117, st117⟩ := putF X114 hx hZ104 hown104 (host := "") (Or.inl (hw _ (List.mem_of_getElem? (i := 56) rfl))) Via.refl e114 F116 F115 (Or.inr ⟨(hw _ (List.mem_of_getElem? (i := 57) rfl)), rfl, hnm⟩) (hw _ (List.mem_of_getElem? (i := 35) rfl)) (ty := (.object "java/lang/String")) (by decide) rfl rfl (g := (mkF m 49 #[.val (.ref ot), .val (.ref owa), .val (.ref owb)] [(.ref owb), (.ref ot)])) rfl rfl (hb hby own_d_prog_22_m1_49)
  have Xo117 : Old Z n0 h117 := Xo114.wr W117 hG
  have KK117 : Keep h0 h117 [ot] := KK114.wr W117 (Or.inl (List.mem_of_getElem? (i := 0) rfl))
  have Fw117 : Fld Z h117 ot "com/example/eager_query/eagerquery/model/Token" "tag" "Ljava/lang/String;" (.ref owb) := F116.same W117
  have N117 := Fr.snoc X117 N114 hG
  refine own_to (V := T117.setTop (mkF m 52 #[.val (.ref ot), .val (.ref owa), .val (.ref owb)] [])) ?_ st117
  have F118 : Fld Z h117 ot "com/example/eager_query/eagerquery/model/Token" "word" "Ljava/lang/String;" (.ref owa) := (Fw114.other W117 (Or.inr (slot_ne (Or.inr (hw _ (List.mem_of_getElem? (i := 55) rfl))) (Or.inr (hw _ (List.mem_of_getElem? (i := 57) rfl))) (by decide) (t := (.object "java/lang/String")) (t' := (.object "java/lang/String")) (by decide) (by decide))))
  exact own_retVW X117 hx hS104 (own_hk e117 (Nat.le_trans (Nat.le_trans (Nat.le_trans hk104 K105.1) (Nat.le_of_eq W114.size.symm)) (Nat.le_of_eq W117.size.symm))) hret hlk (hb hby own_d_prog_22_m1_52) (by rw [e117]; exact (⟨rfl, N117, KK117, F118, Fw117⟩)) (by decide) (by decide)
def own_Qsame (Z : State) (wn : Int32) (wa : Int32) (wb : Int32) (xn : Int32) (xa : Int32) (xb : Int32) (h0 : Heap) (n0 : Nat) (v : Option Value) (h : Heap) (L : List Loc) : Prop := (v = some (.int (1 : Int32)) ∧ Fr n0 L ∧ Keep h0 h [] ∧ ((own_tok wn wa wb) = (own_tok xn xa xb))) ∨ (v = some (.int (0 : Int32)) ∧ Fr n0 L ∧ Keep h0 h [] ∧ (¬ (own_tok wn wa wb) = (own_tok xn xa xb)))
theorem own_ef_same (m : MethodId) (wn : Int32) (wa : Int32) (wb : Int32) (xn : Int32) (xa : Int32) (xb : Int32)  : entryFrame m #[(.int wn), (.int wa), (.int wb), (.int xn), (.int xa), (.int xb)] 6 = mkF m 0 #[.val (.int wn), .val (.int wa), .val (.int wb), .val (.int xn), .val (.int xa), .val (.int xb)] [] := by first | (simp [entryFrame, mkF, argsToLocals, Value.category]; done) | rfl
set_option maxRecDepth 65536 in
set_option maxHeartbeats 40000000 in
theorem own_rmsame (l : Launch) (Z : State) (a0 : Array Value) (hw : ∀ d ∈ tables_1, d.before a0 Z = true) (hst : own_St Z) (ws : List Jvm.Cond) (wn : Int32) (wa : Int32) (wb : Int32) (xn : Int32) (xa : Int32) (xb : Int32) (h0 : Heap) (n0 : Nat) (X00 : Old Z n0 h0) (i1 : own_in2 wn) (i2 : own_in2 xn) :
    MetFree l (⟨"com/example/eager_query/eagerquery/model/TokenEqualsPinLaw", "same", "(ICCICC)Z"⟩ : MethodName) (head1 (Jvm.Cond.code (⟨"com/example/eager_query/eagerquery/model/TokenEqualsPinLaw", "same", "(ICCICC)Z"⟩ : MethodName) method_3_code 6 (Option.some Jvm.ClassFile.FieldType.boolean) :: ws) ({ frames := 0, cells := 0, slots := 0, locals := 0 } : Room)) (fun a U => a = #[(.int wn), (.int wa), (.int wb), (.int xn), (.int xa), (.int xb)] ∧ Z.Warmed39 U.vm ∧ U.heap = h0) (fun _ _ _ _ _ => True) (fun _ U o U' => ∃ v L, o = .returned v ∧ own_Qsame Z wn wa wb xn xa xb h0 n0 v U'.heap L ∧ FrameEnd U o U' L ({ frames := 0, cells := 0, slots := 0, locals := 0 } : Room).cells ({ frames := 0, cells := 0, slots := 0, locals := 0 } : Room).slots) := by
  refine MetFree.of_bodySF (plainFor_of_name own_pn0) hisR ?_
  intro p e s m args below meth c s₁ Bd hml0 hP hK
  obtain ⟨rfl, hZ, hh⟩ := hP
  have hx := Bd.exec
  have hby := Bd.bytes
  have hret := Bd.returns
  have hlk : meth.locks = false := BodyLoose.notSynchronized Bd
  have hml : c.maxLocals = 6 := hml0
  have hown : s.vm.findClass "com/example/eager_query/eagerquery/model/TokenEqualsPinLaw" = some m.cls := findClass_of_methodNamed Bd.named
  have hnm := (name_of_methodNamed Bd.named Bd.method).1
  have X0 : Stand p l e ({ frames := 0, cells := 0, slots := 0, locals := 0 } : Room) s m #[(.int wn), (.int wa), (.int wb), (.int xn), (.int xa), (.int xb)] below meth c s₁ [] 0 0 := Stand.of_body Bd
  have e0 : s₁.heap = h0 := by rw [← hh, Bd.state]; rfl
  have N0 := Fr.nil n0
  have KK0 : Keep h0 h0 [] := Keep.refl h0 _
  refine own_start (own_Qsame Z wn wa wb xn xa xb h0 n0) ?_
  refine own_to (V := s₁.setTop (mkF m 0 #[.val (.int wn), .val (.int wa), .val (.int wb), .val (.int xn), .val (.int xa), .val (.int xb)] [])) ?_ (fun t k => castTop (own_ef_same m wn wa wb xn xa xb ) k)
  obtain ⟨⟨G1, O2, P5⟩, ⟨G3, O4, rG3⟩, ⟨iC, iL, iO1, iO2, iA, iE⟩, -⟩ := id hst
  refine own_to (V := s₁.setTop (mkF m 2 #[.val (.int wn), .val (.int wa), .val (.int wb), .val (.int xn), .val (.int xa), .val (.int xb)] [(.int xn), (.int wn)])) ?_ fun t k => (by
    refine XS.iloadN X0.here hx rfl (hb hby own_d_m3_0) rfl ?_
    refine XS.iloadN X0.here hx rfl (hb hby own_d_m3_1) rfl ?_
    exact k)
  by_cases hc2_101 : wn = xn
  · skip
    refine own_to (V := s₁.setTop (mkF m 10 #[.val (.int wn), .val (.int wa), .val (.int wb), .val (.int xn), .val (.int xa), .val (.int xb)] [(.int xa), (.int wa)])) ?_ fun t k => (by
      refine XS.icmpYes X0.here hx rfl (pc0 := 2) (pc' := 7) rfl (hb hby own_d_m3_2) rfl (teq (hc2_101 : wn = xn)).1 (by decide) (by decide) ?_
      refine XS.iloadN X0.here hx rfl (hb hby own_d_m3_7) rfl ?_
      refine XS.iload X0.here hx rfl (hb hby own_d_m3_8) rfl ?_
      exact k)
    by_cases hc10_102 : wa = xa
    · skip
      refine own_to (V := s₁.setTop (mkF m 17 #[.val (.int wn), .val (.int wa), .val (.int wb), .val (.int xn), .val (.int xa), .val (.int xb)] [(.int (2 : Int32)), (.int wn)])) ?_ fun t k => (by
        refine XS.icmpYes X0.here hx rfl (pc0 := 10) (pc' := 15) rfl (hb hby own_d_m3_10) rfl (teq (hc10_102 : wa = xa)).1 (by decide) (by decide) ?_
        refine XS.iloadN X0.here hx rfl (hb hby own_d_m3_15) rfl ?_
        refine XS.iconst X0.here hx rfl (hb hby own_d_m3_16) ?_
        exact k)
      by_cases hc17_103 : wn = (2 : Int32)
      · skip
        refine own_to (V := s₁.setTop (mkF m 23 #[.val (.int wn), .val (.int wa), .val (.int wb), .val (.int xn), .val (.int xa), .val (.int xb)] [(.int xb), (.int wb)])) ?_ fun t k => (by
          refine XS.icmpNo X0.here hx rfl (hb hby own_d_m3_17) rfl (teq (hc17_103 : wn = (2 : Int32))).2 ?_
          refine XS.iloadN X0.here hx rfl (hb hby own_d_m3_20) rfl ?_
          refine XS.iload X0.here hx rfl (hb hby own_d_m3_21) rfl ?_
          exact k)
        by_cases hc23_104 : wb = xb
        · skip
          refine own_to (V := s₁.setTop (mkF m 29 #[.val (.int wn), .val (.int wa), .val (.int wb), .val (.int xn), .val (.int xa), .val (.int xb)] [(.int (1 : Int32))])) ?_ fun t k => (by
            refine XS.icmpYes X0.here hx rfl (pc0 := 23) (pc' := 28) rfl (hb hby own_d_m3_23) rfl (teq (hc23_104 : wb = xb)).1 (by decide) (by decide) ?_
            refine XS.iconst X0.here hx rfl (hb hby own_d_m3_28) ?_
            exact k)
          exact own_retN X0 hx (t := .boolean) (w := (1 : Int32)) hret (by decide) rfl hlk (hb hby own_d_m3_29) (by rw [e0]; exact (Or.inl ⟨rfl, N0, KK0, ((own_tok_eq i1 i2).mpr ⟨hc2_101, hc10_102, Or.inr hc23_104⟩)⟩)) (by decide) (by decide)
        · skip
          refine own_to (V := s₁.setTop (mkF m 27 #[.val (.int wn), .val (.int wa), .val (.int wb), .val (.int xn), .val (.int xa), .val (.int xb)] [(.int (0 : Int32))])) ?_ fun t k => (by
            refine XS.icmpNo X0.here hx rfl (hb hby own_d_m3_23) rfl (feq (hc23_104 : ¬ (wb = xb))).1 ?_
            refine XS.iconst X0.here hx rfl (hb hby own_d_m3_26) ?_
            exact k)
          exact own_retN X0 hx (t := .boolean) (w := (0 : Int32)) hret (by decide) rfl hlk (hb hby own_d_m3_27) (by rw [e0]; exact (Or.inr (⟨rfl, N0, KK0, (fun w => (fun q => q.2.2.elim (fun r => r hc17_103) hc23_104) ((own_tok_eq i1 i2).mp w))⟩))) (by decide) (by decide)
      · skip
        refine own_to (V := s₁.setTop (mkF m 29 #[.val (.int wn), .val (.int wa), .val (.int wb), .val (.int xn), .val (.int xa), .val (.int xb)] [(.int (1 : Int32))])) ?_ fun t k => (by
          refine XS.icmpYes X0.here hx rfl (pc0 := 17) (pc' := 28) rfl (hb hby own_d_m3_17) rfl (feq (hc17_103 : ¬ (wn = (2 : Int32)))).2 (by decide) (by decide) ?_
          refine XS.iconst X0.here hx rfl (hb hby own_d_m3_28) ?_
          exact k)
        exact own_retN X0 hx (t := .boolean) (w := (1 : Int32)) hret (by decide) rfl hlk (hb hby own_d_m3_29) (by rw [e0]; exact (Or.inl ⟨rfl, N0, KK0, ((own_tok_eq i1 i2).mpr ⟨hc2_101, hc10_102, Or.inl hc17_103⟩)⟩)) (by decide) (by decide)
    · skip
      refine own_to (V := s₁.setTop (mkF m 14 #[.val (.int wn), .val (.int wa), .val (.int wb), .val (.int xn), .val (.int xa), .val (.int xb)] [(.int (0 : Int32))])) ?_ fun t k => (by
        refine XS.icmpNo X0.here hx rfl (hb hby own_d_m3_10) rfl (feq (hc10_102 : ¬ (wa = xa))).1 ?_
        refine XS.iconst X0.here hx rfl (hb hby own_d_m3_13) ?_
        exact k)
      exact own_retN X0 hx (t := .boolean) (w := (0 : Int32)) hret (by decide) rfl hlk (hb hby own_d_m3_14) (by rw [e0]; exact (Or.inr (⟨rfl, N0, KK0, (fun w => (fun q => hc10_102 q.2.1) ((own_tok_eq i1 i2).mp w))⟩))) (by decide) (by decide)
  · skip
    refine own_to (V := s₁.setTop (mkF m 6 #[.val (.int wn), .val (.int wa), .val (.int wb), .val (.int xn), .val (.int xa), .val (.int xb)] [(.int (0 : Int32))])) ?_ fun t k => (by
      refine XS.icmpNo X0.here hx rfl (hb hby own_d_m3_2) rfl (feq (hc2_101 : ¬ (wn = xn))).1 ?_
      refine XS.iconst X0.here hx rfl (hb hby own_d_m3_5) ?_
      exact k)
    exact own_retN X0 hx (t := .boolean) (w := (0 : Int32)) hret (by decide) rfl hlk (hb hby own_d_m3_6) (by rw [e0]; exact (Or.inr (⟨rfl, N0, KK0, (fun w => (fun q => hc2_101 q.1) ((own_tok_eq i1 i2).mp w))⟩))) (by decide) (by decide)
def own_Qnum (Z : State) (ot : Addr) (h0 : Heap) (n0 : Nat) (v : Option Value) (h : Heap) (L : List Loc) : Prop := (v = none ∧ Fr n0 L ∧ Keep h0 h [])
theorem own_ef_num (m : MethodId) (ot : Addr)  : entryFrame m #[(.ref ot)] 1 = mkF m 0 #[.val (.ref ot)] [] := by first | (simp [entryFrame, mkF, argsToLocals, Value.category]; done) | rfl
set_option maxRecDepth 65536 in
set_option maxHeartbeats 40000000 in
theorem own_rmnum (l : Launch) (Z : State) (a0 : Array Value) (hw : ∀ d ∈ tables_1, d.before a0 Z = true) (hst : own_St Z) (ws : List Jvm.Cond) (ot : Addr) (h0 : Heap) (n0 : Nat) (X00 : Old Z n0 h0)  :
    MetFree l (⟨"java/lang/Number", "<init>", "()V"⟩ : MethodName) (head1 (Jvm.Cond.code (⟨"java/lang/Number", "<init>", "()V"⟩ : MethodName) jdk_18_method_1_code 1 (Option.none : Option Jvm.ClassFile.FieldType) :: ws) ({ frames := 1, cells := 0, slots := 0, locals := 12 } : Room)) (fun a U => a = #[(.ref ot)] ∧ Z.Warmed39 U.vm ∧ U.heap = h0) (fun _ _ _ _ _ => True) (fun _ U o U' => ∃ v L, o = .returned v ∧ own_Qnum Z ot h0 n0 v U'.heap L ∧ FrameEnd U o U' L ({ frames := 1, cells := 0, slots := 0, locals := 12 } : Room).cells ({ frames := 1, cells := 0, slots := 0, locals := 12 } : Room).slots) := by
  refine MetFree.of_bodySF (plainFor_of_name own_pn3) hisR ?_
  intro p e s m args below meth c s₁ Bd hml0 hP hK
  obtain ⟨rfl, hZ, hh⟩ := hP
  have hx := Bd.exec
  have hby := Bd.bytes
  have hret := Bd.returns
  have hlk : meth.locks = false := BodyLoose.notSynchronized Bd
  have hml : c.maxLocals = 1 := hml0
  have hown : s.vm.findClass "java/lang/Number" = some m.cls := findClass_of_methodNamed Bd.named
  have hnm := (name_of_methodNamed Bd.named Bd.method).1
  have X0 : Stand p l e ({ frames := 1, cells := 0, slots := 0, locals := 12 } : Room) s m #[(.ref ot)] below meth c s₁ [] 0 0 := Stand.of_body Bd
  have e0 : s₁.heap = h0 := by rw [← hh, Bd.state]; rfl
  have N0 := Fr.nil n0
  have KK0 : Keep h0 h0 [] := Keep.refl h0 _
  refine own_start (own_Qnum Z ot h0 n0) ?_
  refine own_to (V := s₁.setTop (mkF m 0 #[.val (.ref ot)] [])) ?_ (fun t k => castTop (own_ef_num m ot ) k)
  obtain ⟨⟨G1, O2, P5⟩, ⟨G3, O4, rG3⟩, ⟨iC, iL, iO1, iO2, iA, iE⟩, -⟩ := id hst
  refine own_to (V := s₁.setTop (mkF m 1 #[.val (.ref ot)] [(.ref ot)])) ?_ fun t k => (by
    refine XS.aloadN X0.here hx rfl (hb hby own_d_jdk_18_m1_0) rfl rfl ?_
    exact k)
  obtain ⟨T101, X101, e101, st101⟩ := initO X0 hx hZ hown (hw _ (List.mem_of_getElem? (i := 98) rfl)) (hw _ (List.mem_of_getElem? (i := 16) rfl)) (hw _ (List.mem_of_getElem? (i := 17) rfl)) e0 (g := (mkF m 1 #[.val (.ref ot)] [(.ref ot)])) rfl (by rw [hml]; rfl) rfl (hb hby own_d_jdk_18_m1_1) (by decide) (W := 0) (by show 2 * 0 + _ ≤ _; exact Nat.le_of_eq rfl) (by decide)
  refine own_to (V := T101.setTop (mkF m 4 #[.val (.ref ot)] [])) ?_ st101
  exact own_retV X101 hx hret hlk (hb hby own_d_jdk_18_m1_4) (by rw [e101]; exact (⟨rfl, N0, KK0⟩)) (by decide) (by decide)
def own_Qiini (Z : State) (ot : Addr) (wi : Int32) (h0 : Heap) (n0 : Nat) (v : Option Value) (h : Heap) (L : List Loc) : Prop := (v = none ∧ Fr n0 L ∧ Keep h0 h [ot] ∧ (Fld Z h ot "java/lang/Integer" "value" "I" (.int wi)))
theorem own_ef_iini (m : MethodId) (ot : Addr) (wi : Int32)  : entryFrame m #[(.ref ot), (.int wi)] 2 = mkF m 0 #[.val (.ref ot), .val (.int wi)] [] := by first | (simp [entryFrame, mkF, argsToLocals, Value.category]; done) | rfl
set_option maxRecDepth 65536 in
set_option maxHeartbeats 40000000 in
theorem own_rmiini (l : Launch) (Z : State) (a0 : Array Value) (hw : ∀ d ∈ tables_1, d.before a0 Z = true) (hst : own_St Z) (ws : List Jvm.Cond) (ot : Addr) (wi : Int32) (h0 : Heap) (n0 : Nat) (X00 : Old Z n0 h0) (hE : Exa Z h0 ot "java/lang/Integer") (hF : Fld Z h0 ot "java/lang/Integer" "value" "I" (.int (0 : Int32))) (hG : n0 ≤ ot) :
    MetFree l (⟨"java/lang/Integer", "<init>", "(I)V"⟩ : MethodName) (head1 (Jvm.Cond.code (⟨"java/lang/Integer", "<init>", "(I)V"⟩ : MethodName) jdk_33_method_23_code 2 (Option.none : Option Jvm.ClassFile.FieldType) :: ws) ({ frames := 2, cells := 0, slots := 0, locals := 24 } : Room)) (fun a U => a = #[(.ref ot), (.int wi)] ∧ Z.Warmed39 U.vm ∧ U.heap = h0) (fun _ _ _ _ _ => True) (fun _ U o U' => ∃ v L, o = .returned v ∧ own_Qiini Z ot wi h0 n0 v U'.heap L ∧ FrameEnd U o U' L ({ frames := 2, cells := 0, slots := 0, locals := 24 } : Room).cells ({ frames := 2, cells := 0, slots := 0, locals := 24 } : Room).slots) := by
  refine MetFree.of_bodySF (plainFor_of_name own_pn4) hisR ?_
  intro p e s m args below meth c s₁ Bd hml0 hP hK
  obtain ⟨rfl, hZ, hh⟩ := hP
  have hx := Bd.exec
  have hby := Bd.bytes
  have hret := Bd.returns
  have hlk : meth.locks = false := BodyLoose.notSynchronized Bd
  have hml : c.maxLocals = 2 := hml0
  have hown : s.vm.findClass "java/lang/Integer" = some m.cls := findClass_of_methodNamed Bd.named
  have hnm := (name_of_methodNamed Bd.named Bd.method).1
  have X0 : Stand p l e ({ frames := 2, cells := 0, slots := 0, locals := 24 } : Room) s m #[(.ref ot), (.int wi)] below meth c s₁ [] 0 0 := Stand.of_body Bd
  have e0 : s₁.heap = h0 := by rw [← hh, Bd.state]; rfl
  have N0 := Fr.nil n0
  have KK0 : Keep h0 h0 [ot] := Keep.refl h0 _
  refine own_start (own_Qiini Z ot wi h0 n0) ?_
  refine own_to (V := s₁.setTop (mkF m 0 #[.val (.ref ot), .val (.int wi)] [])) ?_ (fun t k => castTop (own_ef_iini m ot wi ) k)
  obtain ⟨⟨G1, O2, P5⟩, ⟨G3, O4, rG3⟩, ⟨iC, iL, iO1, iO2, iA, iE⟩, -⟩ := id hst
  refine own_to (V := s₁.setTop (mkF m 1 #[.val (.ref ot), .val (.int wi)] [(.ref ot)])) ?_ fun t k => (by
    refine XS.aloadN X0.here hx rfl (hb hby own_d_jdk_33_m23_0) rfl rfl ?_
    exact k)
  obtain ⟨_, _, ⟨T101, L101, k101, n101⟩, -, X101, ⟨Lc101, hQ101, l101, y101, z101⟩, st101⟩ := X0.specialBack hx (y := (⟨"java/lang/Number", "<init>", "()V"⟩ : MethodName)) rfl hown (mvT hZ (hw _ (List.mem_of_getElem? (i := 92) rfl))) (mvT hZ (hw _ (List.mem_of_getElem? (i := 93) rfl))) (mvT hZ (hw _ (List.mem_of_getElem? (i := 97) rfl))) (by decide) (backOf (W := 0) (own_rmnum l Z a0 hw hst [] ot h0 n0 X00 ) hZ (hw _ (List.mem_of_getElem? (i := 97) rfl)) (hw _ (List.mem_of_getElem? (i := 96) rfl)) (by decide) (by decide)) (g := (mkF m 1 #[.val (.ref ot), .val (.int wi)] [(.ref ot)])) rfl (by rw [hml]; rfl) (Steps.refl _) (a := ot) (argsL := []) (rest := []) (lenOf own_pd3 rfl) rfl (by show 2 * 0 + _ ≤ _; exact Nat.le_of_eq rfl) (hb hby own_d_jdk_33_m23_1) (fun _ _ => ⟨rfl, e0, (by decide : 0 + 0 ≤ _), (by decide : 0 + 0 ≤ _)⟩)
  dsimp only [Pt.U, Pt.locs, Pt.cells, Pt.slots] at X101 l101 y101 z101 st101 hQ101
  subst l101 y101 z101
  obtain ⟨hv101, N101q, K101⟩ := hQ101
  subst hv101
  obtain ⟨h101, e101⟩ : ∃ z, T101.heap = z := ⟨_, rfl⟩
  rw [e101] at K101
  have Xo101 : Old Z n0 h101 := X00.keep K101 all0
  have KK101 : Keep h0 h101 [ot] := KK0.trans K101 all0
  have N101 := Fr.app N0 N101q
  refine own_to (V := T101.setTop (mkF m 4 #[.val (.ref ot), .val (.int wi)] [])) ?_ (fun t k => st101.trans k)
  refine own_to (V := T101.setTop (mkF m 6 #[.val (.ref ot), .val (.int wi)] [(.int wi), (.ref ot)])) ?_ fun t k => (by
    refine XS.aloadN X101.here hx rfl (hb hby own_d_jdk_33_m23_4) rfl rfl ?_
    refine XS.iloadN X101.here hx rfl (hb hby own_d_jdk_33_m23_5) rfl ?_
    exact k)
  have F102 : Exa Z h101 ot "java/lang/Integer" := (hE.keep K101)
  have F103 : Fld Z h101 ot "java/lang/Integer" "value" "I" (.int (0 : Int32)) := (hF.keep K101 List.not_mem_nil)
  obtain ⟨T104, h104, X104, e104, W104, st104⟩ := putF X101 hx hZ hown (host := "") (Or.inl (hw _ (List.mem_of_getElem? (i := 99) rfl))) Via.refl e101 F103 F102 (Or.inr ⟨(hw _ (List.mem_of_getElem? (i := 100) rfl)), rfl, hnm⟩) (hw _ (List.mem_of_getElem? (i := 87) rfl)) (ty := .int) (by decide) rfl rfl (g := (mkF m 6 #[.val (.ref ot), .val (.int wi)] [(.int wi), (.ref ot)])) rfl rfl (hb hby own_d_jdk_33_m23_6)
  have Xo104 : Old Z n0 h104 := Xo101.wr W104 hG
  have KK104 : Keep h0 h104 [ot] := KK101.wr W104 (Or.inl (List.mem_of_getElem? (i := 0) rfl))
  have Fw104 : Fld Z h104 ot "java/lang/Integer" "value" "I" (.int wi) := F103.same W104
  have N104 := Fr.snoc X104 N101 hG
  refine own_to (V := T104.setTop (mkF m 9 #[.val (.ref ot), .val (.int wi)] [])) ?_ st104
  exact own_retV X104 hx hret hlk (hb hby own_d_jdk_33_m23_9) (by rw [e104]; exact (⟨rfl, N104, KK104, Fw104⟩)) (by decide) (by decide)
def own_Qival (Z : State) (wi : Int32) (h0 : Heap) (n0 : Nat) (v : Option Value) (h : Heap) (L : List Loc) : Prop := (∃ (oi : Addr), v = some (.ref oi) ∧ Fr n0 L ∧ Keep h0 h [] ∧ (Exa Z h oi "java/lang/Integer") ∧ (Fld Z h oi "java/lang/Integer" "value" "I" (.int wi)))
theorem own_ef_ival (m : MethodId) (wi : Int32)  : entryFrame m #[(.int wi)] 1 = mkF m 0 #[.val (.int wi)] [] := by first | (simp [entryFrame, mkF, argsToLocals, Value.category]; done) | rfl
set_option maxRecDepth 65536 in
set_option maxHeartbeats 40000000 in
theorem own_rmival (l : Launch) (Z : State) (a0 : Array Value) (hw : ∀ d ∈ tables_1, d.before a0 Z = true) (hst : own_St Z) (ws : List Jvm.Cond) (wi : Int32) (h0 : Heap) (n0 : Nat) (X00 : Old Z n0 h0)  :
    MetFree l (⟨"java/lang/Integer", "valueOf", "(I)Ljava/lang/Integer;"⟩ : MethodName) (head1 (Jvm.Cond.code (⟨"java/lang/Integer", "valueOf", "(I)Ljava/lang/Integer;"⟩ : MethodName) jdk_33_method_22_code 1 (Option.some (Jvm.ClassFile.FieldType.object "java/lang/Integer")) :: ws) ({ frames := 3, cells := 1, slots := 1, locals := 38 } : Room)) (fun a U => a = #[(.int wi)] ∧ Z.Warmed39 U.vm ∧ U.heap = h0) (fun _ _ _ _ _ => True) (fun _ U o U' => ∃ v L, o = .returned v ∧ own_Qival Z wi h0 n0 v U'.heap L ∧ FrameEnd U o U' L ({ frames := 3, cells := 1, slots := 1, locals := 38 } : Room).cells ({ frames := 3, cells := 1, slots := 1, locals := 38 } : Room).slots) := by
  refine MetFree.of_bodySF (plainFor_of_name own_pn4) hisR ?_
  intro p e s m args below meth c s₁ Bd hml0 hP hK
  obtain ⟨rfl, hZ, hh⟩ := hP
  have hx := Bd.exec
  have hby := Bd.bytes
  have hret := Bd.returns
  have hlk : meth.locks = false := BodyLoose.notSynchronized Bd
  have hml : c.maxLocals = 1 := hml0
  have hown : s.vm.findClass "java/lang/Integer" = some m.cls := findClass_of_methodNamed Bd.named
  have hnm := (name_of_methodNamed Bd.named Bd.method).1
  have X0 : Stand p l e ({ frames := 3, cells := 1, slots := 1, locals := 38 } : Room) s m #[(.int wi)] below meth c s₁ [] 0 0 := Stand.of_body Bd
  have e0 : s₁.heap = h0 := by rw [← hh, Bd.state]; rfl
  have N0 := Fr.nil n0
  have KK0 : Keep h0 h0 [] := Keep.refl h0 _
  refine own_start (own_Qival Z wi h0 n0) ?_
  refine own_to (V := s₁.setTop (mkF m 0 #[.val (.int wi)] [])) ?_ (fun t k => castTop (own_ef_ival m wi ) k)
  obtain ⟨⟨G1, O2, P5⟩, ⟨G3, O4, rG3⟩, ⟨iC, iL, iO1, iO2, iA, iE⟩, -⟩ := id hst
  refine own_to (V := s₁.setTop (mkF m 3 #[.val (.int wi)] [(.int (-128 : Int32)), (.int wi)])) ?_ fun t k => (by
    refine XS.iloadN X0.here hx rfl (hb hby own_d_jdk_33_m22_0) rfl ?_
    refine XS.bipush X0.here hx rfl (hb hby own_d_jdk_33_m22_1) ?_
    exact k)
  by_cases hc3_101 : wi < (-128 : Int32)
  · skip
    refine own_to (V := s₁.setTop (mkF m 23 #[.val (.int wi)] [])) ?_ fun t k => (by
      refine XS.icmpYes X0.here hx rfl (pc0 := 3) (pc' := 23) rfl (hb hby own_d_jdk_33_m22_3) rfl (tlt (hc3_101 : wi < (-128 : Int32))).1 (by decide) (by decide) ?_
      exact k)
    obtain ⟨T102, h102, X102, e102, E102, A102, D102, U102, st102⟩ := newO X0 hx hZ hown (hw _ (List.mem_of_getElem? (i := 86) rfl)) (hw _ (List.mem_of_getElem? (i := 87) rfl)) (hw _ (List.mem_of_getElem? (i := 82) rfl)) e0 (g := (mkF m 23 #[.val (.int wi)] [])) rfl (hb hby own_d_jdk_33_m22_23) (by decide) (by decide)
    obtain ⟨b102, g102⟩ : ∃ z, z = h0.size := ⟨_, rfl⟩
    rw [← g102] at A102 D102 U102 st102
    have Xo102 : Old Z n0 h102 := X00.ext E102
    have KK102 : Keep h0 h102 [] := KK0.ext E102
    have ge_b102 : n0 ≤ b102 := Nat.le_trans (own_ole X00) (Nat.le_of_eq g102.symm)
    have sz_b102 : h0.size ≤ b102 := Nat.le_trans KK0.1 (Nat.le_of_eq g102.symm)
    have Fi102_100 : Fld Z h102 b102 "java/lang/Integer" "value" "I" (.int (0 : Int32)) := D102 (Or.inr (hw _ (List.mem_of_getElem? (i := 100) rfl))) (ty := .int) (by decide)
    refine own_to (V := T102.setTop (mkF m 26 #[.val (.int wi)] [(.ref b102)])) ?_ st102
    refine own_to (V := T102.setTop (mkF m 28 #[.val (.int wi)] [(.int wi), (.ref b102), (.ref b102)])) ?_ fun t k => (by
      refine XS.dup X102.here hx rfl (hb hby own_d_jdk_33_m22_26) rfl rfl ?_
      refine XS.iloadN X102.here hx rfl (hb hby own_d_jdk_33_m22_27) rfl ?_
      exact k)
    obtain ⟨_, _, ⟨T103, L103, k103, n103⟩, -, X103, ⟨Lc103, hQ103, l103, y103, z103⟩, st103⟩ := X102.specialBack hx (y := (⟨"java/lang/Integer", "<init>", "(I)V"⟩ : MethodName)) rfl hown (mvT hZ (hw _ (List.mem_of_getElem? (i := 88) rfl))) (mvT hZ (hw _ (List.mem_of_getElem? (i := 89) rfl))) (mvT hZ (hw _ (List.mem_of_getElem? (i := 91) rfl))) (by decide) (backOf (W := 1) (own_rmiini l Z a0 hw hst [] b102 wi h102 n0 Xo102 A102 Fi102_100 ge_b102) hZ (hw _ (List.mem_of_getElem? (i := 91) rfl)) (hw _ (List.mem_of_getElem? (i := 82) rfl)) (by decide) (by decide)) (g := (mkF m 28 #[.val (.int wi)] [(.int wi), (.ref b102), (.ref b102)])) rfl (by rw [hml]; rfl) (Steps.refl _) (a := b102) (argsL := [(.int wi)]) (rest := [(.ref b102)]) (lenOf own_pd4 rfl) rfl (by show 2 * 0 + _ ≤ _; exact Nat.le_of_eq rfl) (hb hby own_d_jdk_33_m22_28) (fun _ _ => ⟨rfl, e102, (by decide : 1 + 0 ≤ _), (by decide : 1 + 0 ≤ _)⟩)
    dsimp only [Pt.U, Pt.locs, Pt.cells, Pt.slots] at X103 l103 y103 z103 st103 hQ103
    subst l103 y103 z103
    obtain ⟨hv103, N103q, K103, g103_0⟩ := hQ103
    subst hv103
    obtain ⟨h103, e103⟩ : ∃ z, T103.heap = z := ⟨_, rfl⟩
    rw [e103] at K103 g103_0
    have Xo103 : Old Z n0 h103 := Xo102.keep K103 (allS ge_b102 all0)
    have KK103 : Keep h0 h103 [] := KK102.trans K103 (allS (Or.inr sz_b102) all0)
    have N103 := Fr.app N0 N103q
    refine own_to (V := T103.setTop (mkF m 31 #[.val (.int wi)] [(.ref b102)])) ?_ (fun t k => st103.trans k)
    have F104 : Exa Z h103 b102 "java/lang/Integer" := (A102.keep K103)
    exact own_retR X103 hx hret (by decide) rfl hlk (hb hby own_d_jdk_33_m22_31) (by rw [e103]; exact (⟨b102, rfl, N103, KK103, F104, g103_0⟩)) (by decide) (by decide)
  · skip
    refine own_to (V := s₁.setTop (mkF m 7 #[.val (.int wi)] [(.int wi)])) ?_ fun t k => (by
      refine XS.icmpNo X0.here hx rfl (hb hby own_d_jdk_33_m22_3) rfl (flt (hc3_101 : ¬ (wi < (-128 : Int32)))).1 ?_
      refine XS.iloadN X0.here hx rfl (hb hby own_d_jdk_33_m22_6) rfl ?_
      exact k)
    obtain ⟨T105, X105, e105, st105⟩ := getS2 X0 hx hZ hown (host := "") (Or.inl (hw _ (List.mem_of_getElem? (i := 84) rfl))) Via.refl e0 (iO1.ext X00.2) (g := (mkF m 7 #[.val (.int wi)] [(.int wi)])) rfl (hb hby own_d_jdk_33_m22_7)
    refine own_to (V := T105.setTop (mkF m 10 #[.val (.int wi)] [(.int (127 : Int32)), (.int wi)])) ?_ st105
    by_cases hc10_106 : (127 : Int32) < wi
    · skip
      refine own_to (V := T105.setTop (mkF m 23 #[.val (.int wi)] [])) ?_ fun t k => (by
        refine XS.icmpYes X105.here hx rfl (pc0 := 10) (pc' := 23) rfl (hb hby own_d_jdk_33_m22_10) rfl (tlt (hc10_106 : (127 : Int32) < wi)).2.2.1 (by decide) (by decide) ?_
        exact k)
      obtain ⟨T107, h107, X107, e107, E107, A107, D107, U107, st107⟩ := newO X105 hx hZ hown (hw _ (List.mem_of_getElem? (i := 86) rfl)) (hw _ (List.mem_of_getElem? (i := 87) rfl)) (hw _ (List.mem_of_getElem? (i := 82) rfl)) e105 (g := (mkF m 23 #[.val (.int wi)] [])) rfl (hb hby own_d_jdk_33_m22_23) (by decide) (by decide)
      obtain ⟨b107, g107⟩ : ∃ z, z = h0.size := ⟨_, rfl⟩
      rw [← g107] at A107 D107 U107 st107
      have Xo107 : Old Z n0 h107 := X00.ext E107
      have KK107 : Keep h0 h107 [] := KK0.ext E107
      have ge_b107 : n0 ≤ b107 := Nat.le_trans (own_ole X00) (Nat.le_of_eq g107.symm)
      have sz_b107 : h0.size ≤ b107 := Nat.le_trans KK0.1 (Nat.le_of_eq g107.symm)
      have Fi107_100 : Fld Z h107 b107 "java/lang/Integer" "value" "I" (.int (0 : Int32)) := D107 (Or.inr (hw _ (List.mem_of_getElem? (i := 100) rfl))) (ty := .int) (by decide)
      refine own_to (V := T107.setTop (mkF m 26 #[.val (.int wi)] [(.ref b107)])) ?_ st107
      refine own_to (V := T107.setTop (mkF m 28 #[.val (.int wi)] [(.int wi), (.ref b107), (.ref b107)])) ?_ fun t k => (by
        refine XS.dup X107.here hx rfl (hb hby own_d_jdk_33_m22_26) rfl rfl ?_
        refine XS.iloadN X107.here hx rfl (hb hby own_d_jdk_33_m22_27) rfl ?_
        exact k)
      obtain ⟨_, _, ⟨T108, L108, k108, n108⟩, -, X108, ⟨Lc108, hQ108, l108, y108, z108⟩, st108⟩ := X107.specialBack hx (y := (⟨"java/lang/Integer", "<init>", "(I)V"⟩ : MethodName)) rfl hown (mvT hZ (hw _ (List.mem_of_getElem? (i := 88) rfl))) (mvT hZ (hw _ (List.mem_of_getElem? (i := 89) rfl))) (mvT hZ (hw _ (List.mem_of_getElem? (i := 91) rfl))) (by decide) (backOf (W := 1) (own_rmiini l Z a0 hw hst [] b107 wi h107 n0 Xo107 A107 Fi107_100 ge_b107) hZ (hw _ (List.mem_of_getElem? (i := 91) rfl)) (hw _ (List.mem_of_getElem? (i := 82) rfl)) (by decide) (by decide)) (g := (mkF m 28 #[.val (.int wi)] [(.int wi), (.ref b107), (.ref b107)])) rfl (by rw [hml]; rfl) (Steps.refl _) (a := b107) (argsL := [(.int wi)]) (rest := [(.ref b107)]) (lenOf own_pd4 rfl) rfl (by show 2 * 0 + _ ≤ _; exact Nat.le_of_eq rfl) (hb hby own_d_jdk_33_m22_28) (fun _ _ => ⟨rfl, e107, (by decide : 1 + 0 ≤ _), (by decide : 1 + 0 ≤ _)⟩)
      dsimp only [Pt.U, Pt.locs, Pt.cells, Pt.slots] at X108 l108 y108 z108 st108 hQ108
      subst l108 y108 z108
      obtain ⟨hv108, N108q, K108, g108_0⟩ := hQ108
      subst hv108
      obtain ⟨h108, e108⟩ : ∃ z, T108.heap = z := ⟨_, rfl⟩
      rw [e108] at K108 g108_0
      have Xo108 : Old Z n0 h108 := Xo107.keep K108 (allS ge_b107 all0)
      have KK108 : Keep h0 h108 [] := KK107.trans K108 (allS (Or.inr sz_b107) all0)
      have N108 := Fr.app N0 N108q
      refine own_to (V := T108.setTop (mkF m 31 #[.val (.int wi)] [(.ref b107)])) ?_ (fun t k => st108.trans k)
      have F109 : Exa Z h108 b107 "java/lang/Integer" := (A107.keep K108)
      exact own_retR X108 hx hret (by decide) rfl hlk (hb hby own_d_jdk_33_m22_31) (by rw [e108]; exact (⟨b107, rfl, N108, KK108, F109, g108_0⟩)) (by decide) (by decide)
    · skip
      refine own_to (V := T105.setTop (mkF m 13 #[.val (.int wi)] [])) ?_ fun t k => (by
        refine XS.icmpNo X105.here hx rfl (hb hby own_d_jdk_33_m22_10) rfl (flt (hc10_106 : ¬ ((127 : Int32) < wi))).2.2.1 ?_
        exact k)
      obtain ⟨T110, X110, e110, st110⟩ := getS2 X105 hx hZ hown (host := "") (Or.inl (hw _ (List.mem_of_getElem? (i := 103) rfl))) Via.refl e105 (iO2.ext X00.2) (g := (mkF m 13 #[.val (.int wi)] [])) rfl (hb hby own_d_jdk_33_m22_13)
      refine own_to (V := T110.setTop (mkF m 16 #[.val (.int wi)] [(.ref iC)])) ?_ st110
      refine own_to (V := T110.setTop (mkF m 21 #[.val (.int wi)] [(.int (wi + (128 : Int32))), (.ref iC)])) ?_ fun t k => (by
        refine XS.iloadN X110.here hx rfl (hb hby own_d_jdk_33_m22_16) rfl ?_
        refine XS.sipush X110.here hx rfl (hb hby own_d_jdk_33_m22_17) ?_
        refine XS.iadd X110.here hx rfl (hb hby own_d_jdk_33_m22_20) rfl ?_
        exact k)
      obtain ⟨hin, ib, hat, iX, iF⟩ := iE wi hc3_101 hc10_106
      refine own_to (V := T110.setTop (mkF m 22 #[.val (.int wi)] [(.ref ib)])) ?_ (fun t k => X110.aaload hx (j := (wi + (128 : Int32))) (v := (.ref ib)) (by rw [e110]; exact (iA.ext X00.2).1) (State.isArrayOf_alike hZ.alike iA.2.1) rfl iA.2.2 hin hat (g := (mkF m 21 #[.val (.int wi)] [(.int (wi + (128 : Int32))), (.ref iC)])) rfl rfl (hb hby own_d_jdk_33_m22_21) t k)
      have iX' : Exa Z h0 ib "java/lang/Integer" := iX.ext X00.2
      have iF' : Fld Z h0 ib "java/lang/Integer" "value" "I" (.int wi) := iF.ext X00.2
      exact own_retR X110 hx hret (by decide) rfl hlk (hb hby own_d_jdk_33_m22_22) (by rw [e110]; exact (⟨ib, rfl, N0, KK0, iX', iF'⟩)) (by decide) (by decide)
def own_QeqN (Z : State) (oa : Addr) (h0 : Heap) (n0 : Nat) (v : Option Value) (h : Heap) (L : List Loc) : Prop := (v = some (.int (0 : Int32)) ∧ Fr n0 L ∧ Keep h0 h [])
theorem own_ef_eqN (m : MethodId) (oa : Addr)  : entryFrame m #[(.ref oa), .null] 3 = mkF m 0 #[.val (.ref oa), .val .null, .unset] [] := by first | (simp [entryFrame, mkF, argsToLocals, Value.category]; done) | rfl
set_option maxRecDepth 65536 in
set_option maxHeartbeats 40000000 in
theorem own_rmeqN (l : Launch) (Z : State) (a0 : Array Value) (hw : ∀ d ∈ tables_1, d.before a0 Z = true) (hst : own_St Z) (ws : List Jvm.Cond) (oa : Addr) (h0 : Heap) (n0 : Nat) (X00 : Old Z n0 h0) (hE : Exa Z h0 oa "com/example/eager_query/eagerquery/model/Token") :
    MetFree l (⟨"com/example/eager_query/eagerquery/model/Token", "equals", "(Ljava/lang/Object;)Z"⟩ : MethodName) (head1 (Jvm.Cond.code (⟨"com/example/eager_query/eagerquery/model/Token", "equals", "(Ljava/lang/Object;)Z"⟩ : MethodName) prog_22_method_7_code 3 (Option.some Jvm.ClassFile.FieldType.boolean) :: ws) ({ frames := 0, cells := 0, slots := 0, locals := 0 } : Room)) (fun a U => a = #[(.ref oa), .null] ∧ Z.Warmed39 U.vm ∧ U.heap = h0) (fun _ _ _ _ _ => True) (fun _ U o U' => ∃ v L, o = .returned v ∧ own_QeqN Z oa h0 n0 v U'.heap L ∧ FrameEnd U o U' L ({ frames := 0, cells := 0, slots := 0, locals := 0 } : Room).cells ({ frames := 0, cells := 0, slots := 0, locals := 0 } : Room).slots) := by
  refine MetFree.of_bodySF (plainFor_of_name own_pn2) hisR ?_
  intro p e s m args below meth c s₁ Bd hml0 hP hK
  obtain ⟨rfl, hZ, hh⟩ := hP
  have hx := Bd.exec
  have hby := Bd.bytes
  have hret := Bd.returns
  have hlk : meth.locks = false := BodyLoose.notSynchronized Bd
  have hml : c.maxLocals = 3 := hml0
  have hown : s.vm.findClass "com/example/eager_query/eagerquery/model/Token" = some m.cls := findClass_of_methodNamed Bd.named
  have hnm := (name_of_methodNamed Bd.named Bd.method).1
  have X0 : Stand p l e ({ frames := 0, cells := 0, slots := 0, locals := 0 } : Room) s m #[(.ref oa), .null] below meth c s₁ [] 0 0 := Stand.of_body Bd
  have e0 : s₁.heap = h0 := by rw [← hh, Bd.state]; rfl
  have N0 := Fr.nil n0
  have KK0 : Keep h0 h0 [] := Keep.refl h0 _
  refine own_start (own_QeqN Z oa h0 n0) ?_
  refine own_to (V := s₁.setTop (mkF m 0 #[.val (.ref oa), .val .null, .unset] [])) ?_ (fun t k => castTop (own_ef_eqN m oa ) k)
  obtain ⟨⟨G1, O2, P5⟩, ⟨G3, O4, rG3⟩, ⟨iC, iL, iO1, iO2, iA, iE⟩, -⟩ := id hst
  refine own_to (V := s₁.setTop (mkF m 2 #[.val (.ref oa), .val .null, .unset] [.null, (.ref oa)])) ?_ fun t k => (by
    refine XS.aloadN X0.here hx rfl (hb hby own_d_prog_22_m7_0) rfl rfl ?_
    refine XS.aloadN X0.here hx rfl (hb hby own_d_prog_22_m7_1) rfl rfl ?_
    exact k)
  refine own_to (V := s₁.setTop (mkF m 8 #[.val (.ref oa), .val .null, .unset] [.null])) ?_ fun t k => (by
    refine Jvm.RoadKit.acmp (g := (mkF m 2 #[.val (.ref oa), .val .null, .unset] [.null, (.ref oa)])) X0 hx rfl rfl rfl (pc0 := 2) (pc' := 7) (same := false) rfl (hb hby own_d_prog_22_m7_2) rfl (decide_eq_false nofun) (by decide) (by decide) ?_
    refine XS.aloadN X0.here hx rfl (hb hby own_d_prog_22_m7_7) rfl rfl ?_
    exact k)
  refine own_to (V := s₁.setTop (mkF m 11 #[.val (.ref oa), .val .null, .unset] [(.int (0 : Int32))])) ?_ (fun t k => X0.instanceofNull hx (g := (mkF m 8 #[.val (.ref oa), .val .null, .unset] [.null])) rfl rfl (hb hby own_d_prog_22_m7_8) t k)
  refine own_to (V := s₁.setTop (mkF m 15 #[.val (.ref oa), .val .null, .unset] [(.int (0 : Int32))])) ?_ fun t k => (by
    refine XS.ifNo X0.here hx rfl (hb hby own_d_prog_22_m7_11) rfl ((if0 _ _).trans (teq ((by decide) : (0 : Int32) = (0 : Int32))).2) ?_
    refine XS.iconst X0.here hx rfl (hb hby own_d_prog_22_m7_14) ?_
    exact k)
  exact own_retN X0 hx (t := .boolean) (w := (0 : Int32)) hret (by decide) rfl hlk (hb hby own_d_prog_22_m7_15) (by rw [e0]; exact (⟨rfl, N0, KK0⟩)) (by decide) (by decide)
def own_QeqS (Z : State) (oa : Addr) (ow : Addr) (h0 : Heap) (n0 : Nat) (v : Option Value) (h : Heap) (L : List Loc) : Prop := (v = some (.int (0 : Int32)) ∧ Fr n0 L ∧ Keep h0 h [])
theorem own_ef_eqS (m : MethodId) (oa : Addr) (ow : Addr)  : entryFrame m #[(.ref oa), (.ref ow)] 3 = mkF m 0 #[.val (.ref oa), .val (.ref ow), .unset] [] := by first | (simp [entryFrame, mkF, argsToLocals, Value.category]; done) | rfl
set_option maxRecDepth 65536 in
set_option maxHeartbeats 40000000 in
theorem own_rmeqS (l : Launch) (Z : State) (a0 : Array Value) (hw : ∀ d ∈ tables_1, d.before a0 Z = true) (hst : own_St Z) (ws : List Jvm.Cond) (oa : Addr) (ow : Addr) (h0 : Heap) (n0 : Nat) (X00 : Old Z n0 h0) (hE : Exa Z h0 oa "com/example/eager_query/eagerquery/model/Token") (hEw : Exa Z h0 ow "java/lang/String") :
    MetFree l (⟨"com/example/eager_query/eagerquery/model/Token", "equals", "(Ljava/lang/Object;)Z"⟩ : MethodName) (head1 (Jvm.Cond.code (⟨"com/example/eager_query/eagerquery/model/Token", "equals", "(Ljava/lang/Object;)Z"⟩ : MethodName) prog_22_method_7_code 3 (Option.some Jvm.ClassFile.FieldType.boolean) :: ws) ({ frames := 0, cells := 0, slots := 0, locals := 0 } : Room)) (fun a U => a = #[(.ref oa), (.ref ow)] ∧ Z.Warmed39 U.vm ∧ U.heap = h0) (fun _ _ _ _ _ => True) (fun _ U o U' => ∃ v L, o = .returned v ∧ own_QeqS Z oa ow h0 n0 v U'.heap L ∧ FrameEnd U o U' L ({ frames := 0, cells := 0, slots := 0, locals := 0 } : Room).cells ({ frames := 0, cells := 0, slots := 0, locals := 0 } : Room).slots) := by
  refine MetFree.of_bodySF (plainFor_of_name own_pn2) hisR ?_
  intro p e s m args below meth c s₁ Bd hml0 hP hK
  obtain ⟨rfl, hZ, hh⟩ := hP
  have hx := Bd.exec
  have hby := Bd.bytes
  have hret := Bd.returns
  have hlk : meth.locks = false := BodyLoose.notSynchronized Bd
  have hml : c.maxLocals = 3 := hml0
  have hown : s.vm.findClass "com/example/eager_query/eagerquery/model/Token" = some m.cls := findClass_of_methodNamed Bd.named
  have hnm := (name_of_methodNamed Bd.named Bd.method).1
  have X0 : Stand p l e ({ frames := 0, cells := 0, slots := 0, locals := 0 } : Room) s m #[(.ref oa), (.ref ow)] below meth c s₁ [] 0 0 := Stand.of_body Bd
  have e0 : s₁.heap = h0 := by rw [← hh, Bd.state]; rfl
  have N0 := Fr.nil n0
  have KK0 : Keep h0 h0 [] := Keep.refl h0 _
  refine own_start (own_QeqS Z oa ow h0 n0) ?_
  refine own_to (V := s₁.setTop (mkF m 0 #[.val (.ref oa), .val (.ref ow), .unset] [])) ?_ (fun t k => castTop (own_ef_eqS m oa ow ) k)
  obtain ⟨⟨G1, O2, P5⟩, ⟨G3, O4, rG3⟩, ⟨iC, iL, iO1, iO2, iA, iE⟩, -⟩ := id hst
  refine own_to (V := s₁.setTop (mkF m 2 #[.val (.ref oa), .val (.ref ow), .unset] [(.ref ow), (.ref oa)])) ?_ fun t k => (by
    refine XS.aloadN X0.here hx rfl (hb hby own_d_prog_22_m7_0) rfl rfl ?_
    refine XS.aloadN X0.here hx rfl (hb hby own_d_prog_22_m7_1) rfl rfl ?_
    exact k)
  refine own_to (V := s₁.setTop (mkF m 8 #[.val (.ref oa), .val (.ref ow), .unset] [(.ref ow)])) ?_ fun t k => (by
    refine Jvm.RoadKit.acmp (g := (mkF m 2 #[.val (.ref oa), .val (.ref ow), .unset] [(.ref ow), (.ref oa)])) X0 hx rfl rfl rfl (pc0 := 2) (pc' := 7) (same := false) rfl (hb hby own_d_prog_22_m7_2) rfl (decide_eq_false fun q => (Jvm.RoadKit.Exa.ne hE hEw (by decide)) (Value.ref.inj q)) (by decide) (by decide) ?_
    refine XS.aloadN X0.here hx rfl (hb hby own_d_prog_22_m7_7) rfl rfl ?_
    exact k)
  obtain ⟨T101, X101, e101, st101⟩ := instNo X0 hx hZ hown (hw _ (List.mem_of_getElem? (i := 66) rfl)) e0 hEw (own_NSno (hw _ (List.mem_of_getElem? (i := 78) rfl)) (hw _ (List.mem_of_getElem? (i := 35) rfl)) (NS.step (hw _ (List.mem_of_getElem? (i := 78) rfl)) (own_NSroot (hw _ (List.mem_of_getElem? (i := 79) rfl)) (hw _ (List.mem_of_getElem? (i := 35) rfl)) (by decide)) (by decide)) (by decide)) (g := (mkF m 8 #[.val (.ref oa), .val (.ref ow), .unset] [(.ref ow)])) rfl rfl (hb hby own_d_prog_22_m7_8)
  refine own_to (V := T101.setTop (mkF m 11 #[.val (.ref oa), .val (.ref ow), .unset] [(.int (0 : Int32))])) ?_ st101
  refine own_to (V := T101.setTop (mkF m 15 #[.val (.ref oa), .val (.ref ow), .unset] [(.int (0 : Int32))])) ?_ fun t k => (by
    refine XS.ifNo X101.here hx rfl (hb hby own_d_prog_22_m7_11) rfl ((if0 _ _).trans (teq ((by decide) : (0 : Int32) = (0 : Int32))).2) ?_
    refine XS.iconst X101.here hx rfl (hb hby own_d_prog_22_m7_14) ?_
    exact k)
  exact own_retN X101 hx (t := .boolean) (w := (0 : Int32)) hret (by decide) rfl hlk (hb hby own_d_prog_22_m7_15) (by rw [e101]; exact (⟨rfl, N0, KK0⟩)) (by decide) (by decide)
def own_QeqJ (Z : State) (oa : Addr) (ow : Addr) (h0 : Heap) (n0 : Nat) (v : Option Value) (h : Heap) (L : List Loc) : Prop := (v = some (.int (0 : Int32)) ∧ Fr n0 L ∧ Keep h0 h [])
theorem own_ef_eqJ (m : MethodId) (oa : Addr) (ow : Addr)  : entryFrame m #[(.ref oa), (.ref ow)] 3 = mkF m 0 #[.val (.ref oa), .val (.ref ow), .unset] [] := by first | (simp [entryFrame, mkF, argsToLocals, Value.category]; done) | rfl
set_option maxRecDepth 65536 in
set_option maxHeartbeats 40000000 in
theorem own_rmeqJ (l : Launch) (Z : State) (a0 : Array Value) (hw : ∀ d ∈ tables_1, d.before a0 Z = true) (hst : own_St Z) (ws : List Jvm.Cond) (oa : Addr) (ow : Addr) (h0 : Heap) (n0 : Nat) (X00 : Old Z n0 h0) (hE : Exa Z h0 oa "com/example/eager_query/eagerquery/model/Token") (hEw : Exa Z h0 ow "java/lang/Integer") :
    MetFree l (⟨"com/example/eager_query/eagerquery/model/Token", "equals", "(Ljava/lang/Object;)Z"⟩ : MethodName) (head1 (Jvm.Cond.code (⟨"com/example/eager_query/eagerquery/model/Token", "equals", "(Ljava/lang/Object;)Z"⟩ : MethodName) prog_22_method_7_code 3 (Option.some Jvm.ClassFile.FieldType.boolean) :: ws) ({ frames := 0, cells := 0, slots := 0, locals := 0 } : Room)) (fun a U => a = #[(.ref oa), (.ref ow)] ∧ Z.Warmed39 U.vm ∧ U.heap = h0) (fun _ _ _ _ _ => True) (fun _ U o U' => ∃ v L, o = .returned v ∧ own_QeqJ Z oa ow h0 n0 v U'.heap L ∧ FrameEnd U o U' L ({ frames := 0, cells := 0, slots := 0, locals := 0 } : Room).cells ({ frames := 0, cells := 0, slots := 0, locals := 0 } : Room).slots) := by
  refine MetFree.of_bodySF (plainFor_of_name own_pn2) hisR ?_
  intro p e s m args below meth c s₁ Bd hml0 hP hK
  obtain ⟨rfl, hZ, hh⟩ := hP
  have hx := Bd.exec
  have hby := Bd.bytes
  have hret := Bd.returns
  have hlk : meth.locks = false := BodyLoose.notSynchronized Bd
  have hml : c.maxLocals = 3 := hml0
  have hown : s.vm.findClass "com/example/eager_query/eagerquery/model/Token" = some m.cls := findClass_of_methodNamed Bd.named
  have hnm := (name_of_methodNamed Bd.named Bd.method).1
  have X0 : Stand p l e ({ frames := 0, cells := 0, slots := 0, locals := 0 } : Room) s m #[(.ref oa), (.ref ow)] below meth c s₁ [] 0 0 := Stand.of_body Bd
  have e0 : s₁.heap = h0 := by rw [← hh, Bd.state]; rfl
  have N0 := Fr.nil n0
  have KK0 : Keep h0 h0 [] := Keep.refl h0 _
  refine own_start (own_QeqJ Z oa ow h0 n0) ?_
  refine own_to (V := s₁.setTop (mkF m 0 #[.val (.ref oa), .val (.ref ow), .unset] [])) ?_ (fun t k => castTop (own_ef_eqJ m oa ow ) k)
  obtain ⟨⟨G1, O2, P5⟩, ⟨G3, O4, rG3⟩, ⟨iC, iL, iO1, iO2, iA, iE⟩, -⟩ := id hst
  refine own_to (V := s₁.setTop (mkF m 2 #[.val (.ref oa), .val (.ref ow), .unset] [(.ref ow), (.ref oa)])) ?_ fun t k => (by
    refine XS.aloadN X0.here hx rfl (hb hby own_d_prog_22_m7_0) rfl rfl ?_
    refine XS.aloadN X0.here hx rfl (hb hby own_d_prog_22_m7_1) rfl rfl ?_
    exact k)
  refine own_to (V := s₁.setTop (mkF m 8 #[.val (.ref oa), .val (.ref ow), .unset] [(.ref ow)])) ?_ fun t k => (by
    refine Jvm.RoadKit.acmp (g := (mkF m 2 #[.val (.ref oa), .val (.ref ow), .unset] [(.ref ow), (.ref oa)])) X0 hx rfl rfl rfl (pc0 := 2) (pc' := 7) (same := false) rfl (hb hby own_d_prog_22_m7_2) rfl (decide_eq_false fun q => (Jvm.RoadKit.Exa.ne hE hEw (by decide)) (Value.ref.inj q)) (by decide) (by decide) ?_
    refine XS.aloadN X0.here hx rfl (hb hby own_d_prog_22_m7_7) rfl rfl ?_
    exact k)
  obtain ⟨T101, X101, e101, st101⟩ := instNo X0 hx hZ hown (hw _ (List.mem_of_getElem? (i := 66) rfl)) e0 hEw (own_NSno (hw _ (List.mem_of_getElem? (i := 101) rfl)) (hw _ (List.mem_of_getElem? (i := 35) rfl)) (NS.step (hw _ (List.mem_of_getElem? (i := 101) rfl)) (NS.step (hw _ (List.mem_of_getElem? (i := 102) rfl)) (own_NSroot (hw _ (List.mem_of_getElem? (i := 79) rfl)) (hw _ (List.mem_of_getElem? (i := 35) rfl)) (by decide)) (by decide)) (by decide)) (by decide)) (g := (mkF m 8 #[.val (.ref oa), .val (.ref ow), .unset] [(.ref ow)])) rfl rfl (hb hby own_d_prog_22_m7_8)
  refine own_to (V := T101.setTop (mkF m 11 #[.val (.ref oa), .val (.ref ow), .unset] [(.int (0 : Int32))])) ?_ st101
  refine own_to (V := T101.setTop (mkF m 15 #[.val (.ref oa), .val (.ref ow), .unset] [(.int (0 : Int32))])) ?_ fun t k => (by
    refine XS.ifNo X101.here hx rfl (hb hby own_d_prog_22_m7_11) rfl ((if0 _ _).trans (teq ((by decide) : (0 : Int32) = (0 : Int32))).2) ?_
    refine XS.iconst X101.here hx rfl (hb hby own_d_prog_22_m7_14) ?_
    exact k)
  exact own_retN X101 hx (t := .boolean) (w := (0 : Int32)) hret (by decide) rfl hlk (hb hby own_d_prog_22_m7_15) (by rw [e101]; exact (⟨rfl, N0, KK0⟩)) (by decide) (by decide)
def own_QeqI (Z : State) (oa : Addr) (h0 : Heap) (n0 : Nat) (v : Option Value) (h : Heap) (L : List Loc) : Prop := (v = some (.int (1 : Int32)) ∧ Fr n0 L ∧ Keep h0 h [])
theorem own_ef_eqI (m : MethodId) (oa : Addr)  : entryFrame m #[(.ref oa), (.ref oa)] 3 = mkF m 0 #[.val (.ref oa), .val (.ref oa), .unset] [] := by first | (simp [entryFrame, mkF, argsToLocals, Value.category]; done) | rfl
set_option maxRecDepth 65536 in
set_option maxHeartbeats 40000000 in
theorem own_rmeqI (l : Launch) (Z : State) (a0 : Array Value) (hw : ∀ d ∈ tables_1, d.before a0 Z = true) (hst : own_St Z) (ws : List Jvm.Cond) (oa : Addr) (h0 : Heap) (n0 : Nat) (X00 : Old Z n0 h0) (hE : Exa Z h0 oa "com/example/eager_query/eagerquery/model/Token") :
    MetFree l (⟨"com/example/eager_query/eagerquery/model/Token", "equals", "(Ljava/lang/Object;)Z"⟩ : MethodName) (head1 (Jvm.Cond.code (⟨"com/example/eager_query/eagerquery/model/Token", "equals", "(Ljava/lang/Object;)Z"⟩ : MethodName) prog_22_method_7_code 3 (Option.some Jvm.ClassFile.FieldType.boolean) :: ws) ({ frames := 0, cells := 0, slots := 0, locals := 0 } : Room)) (fun a U => a = #[(.ref oa), (.ref oa)] ∧ Z.Warmed39 U.vm ∧ U.heap = h0) (fun _ _ _ _ _ => True) (fun _ U o U' => ∃ v L, o = .returned v ∧ own_QeqI Z oa h0 n0 v U'.heap L ∧ FrameEnd U o U' L ({ frames := 0, cells := 0, slots := 0, locals := 0 } : Room).cells ({ frames := 0, cells := 0, slots := 0, locals := 0 } : Room).slots) := by
  refine MetFree.of_bodySF (plainFor_of_name own_pn2) hisR ?_
  intro p e s m args below meth c s₁ Bd hml0 hP hK
  obtain ⟨rfl, hZ, hh⟩ := hP
  have hx := Bd.exec
  have hby := Bd.bytes
  have hret := Bd.returns
  have hlk : meth.locks = false := BodyLoose.notSynchronized Bd
  have hml : c.maxLocals = 3 := hml0
  have hown : s.vm.findClass "com/example/eager_query/eagerquery/model/Token" = some m.cls := findClass_of_methodNamed Bd.named
  have hnm := (name_of_methodNamed Bd.named Bd.method).1
  have X0 : Stand p l e ({ frames := 0, cells := 0, slots := 0, locals := 0 } : Room) s m #[(.ref oa), (.ref oa)] below meth c s₁ [] 0 0 := Stand.of_body Bd
  have e0 : s₁.heap = h0 := by rw [← hh, Bd.state]; rfl
  have N0 := Fr.nil n0
  have KK0 : Keep h0 h0 [] := Keep.refl h0 _
  refine own_start (own_QeqI Z oa h0 n0) ?_
  refine own_to (V := s₁.setTop (mkF m 0 #[.val (.ref oa), .val (.ref oa), .unset] [])) ?_ (fun t k => castTop (own_ef_eqI m oa ) k)
  obtain ⟨⟨G1, O2, P5⟩, ⟨G3, O4, rG3⟩, ⟨iC, iL, iO1, iO2, iA, iE⟩, -⟩ := id hst
  refine own_to (V := s₁.setTop (mkF m 2 #[.val (.ref oa), .val (.ref oa), .unset] [(.ref oa), (.ref oa)])) ?_ fun t k => (by
    refine XS.aloadN X0.here hx rfl (hb hby own_d_prog_22_m7_0) rfl rfl ?_
    refine XS.aloadN X0.here hx rfl (hb hby own_d_prog_22_m7_1) rfl rfl ?_
    exact k)
  refine own_to (V := s₁.setTop (mkF m 6 #[.val (.ref oa), .val (.ref oa), .unset] [(.int (1 : Int32))])) ?_ fun t k => (by
    refine Jvm.RoadKit.acmp (g := (mkF m 2 #[.val (.ref oa), .val (.ref oa), .unset] [(.ref oa), (.ref oa)])) X0 hx rfl rfl rfl (pc0 := 2) (pc' := 5) (same := true) rfl (hb hby own_d_prog_22_m7_2) rfl (decide_eq_true rfl) (by decide) (by decide) ?_
    refine XS.iconst X0.here hx rfl (hb hby own_d_prog_22_m7_5) ?_
    exact k)
  exact own_retN X0 hx (t := .boolean) (w := (1 : Int32)) hret (by decide) rfl hlk (hb hby own_d_prog_22_m7_6) (by rw [e0]; exact (⟨rfl, N0, KK0⟩)) (by decide) (by decide)
def own_QeqE (Z : State) (oa : Addr) (ob : Addr) (wwa : Addr) (wwb : Addr) (wta : Addr) (wtb : Addr) (ua : Addr) (ub : Addr) (uc : Addr) (ud : Addr) (cs : List Int32) (ds : List Int32) (cs2 : List Int32) (ds2 : List Int32) (h0 : Heap) (n0 : Nat) (v : Option Value) (h : Heap) (L : List Loc) : Prop := (v = some (.int (1 : Int32)) ∧ Fr n0 L ∧ Keep h0 h [] ∧ (cs = ds ∧ cs2 = ds2)) ∨ (v = some (.int (0 : Int32)) ∧ Fr n0 L ∧ Keep h0 h [] ∧ (¬ (cs = ds ∧ cs2 = ds2)))
theorem own_ef_eqE (m : MethodId) (oa : Addr) (ob : Addr)  : entryFrame m #[(.ref oa), (.ref ob)] 3 = mkF m 0 #[.val (.ref oa), .val (.ref ob), .unset] [] := by first | (simp [entryFrame, mkF, argsToLocals, Value.category]; done) | rfl
set_option maxRecDepth 65536 in
set_option maxHeartbeats 40000000 in
theorem own_rmeqE (l : Launch) (Z : State) (a0 : Array Value) (hw : ∀ d ∈ tables_1, d.before a0 Z = true) (hst : own_St Z) (ws : List Jvm.Cond) (oa : Addr) (ob : Addr) (wwa : Addr) (wwb : Addr) (wta : Addr) (wtb : Addr) (ua : Addr) (ub : Addr) (uc : Addr) (ud : Addr) (cs : List Int32) (ds : List Int32) (cs2 : List Int32) (ds2 : List Int32) (h0 : Heap) (n0 : Nat) (X00 : Old Z n0 h0) (hE : Exa Z h0 oa "com/example/eager_query/eagerquery/model/Token") (hE2 : Exa Z h0 ob "com/example/eager_query/eagerquery/model/Token") (hne : oa ≠ ob) (hF1 : Fld Z h0 oa "com/example/eager_query/eagerquery/model/Token" "word" "Ljava/lang/String;" (.ref wwa)) (hF2 : Fld Z h0 ob "com/example/eager_query/eagerquery/model/Token" "word" "Ljava/lang/String;" (.ref wwb)) (hF3 : Fld Z h0 oa "com/example/eager_query/eagerquery/model/Token" "tag" "Ljava/lang/String;" (.ref wta)) (hF4 : Fld Z h0 ob "com/example/eager_query/eagerquery/model/Token" "tag" "Ljava/lang/String;" (.ref wtb)) (hS1 : own_Str Z h0 wwa ua cs) (hS2 : own_Str Z h0 wwb ub ds) (hS3 : own_Str Z h0 wta uc cs2) (hS4 : own_Str Z h0 wtb ud ds2) :
    MetFree l (⟨"com/example/eager_query/eagerquery/model/Token", "equals", "(Ljava/lang/Object;)Z"⟩ : MethodName) (head1 (Jvm.Cond.code (⟨"com/example/eager_query/eagerquery/model/Token", "equals", "(Ljava/lang/Object;)Z"⟩ : MethodName) prog_22_method_7_code 3 (Option.some Jvm.ClassFile.FieldType.boolean) :: ws) ({ frames := 2, cells := 0, slots := 0, locals := 28 } : Room)) (fun a U => a = #[(.ref oa), (.ref ob)] ∧ Z.Warmed39 U.vm ∧ U.heap = h0) (fun _ _ _ _ _ => True) (fun _ U o U' => ∃ v L, o = .returned v ∧ own_QeqE Z oa ob wwa wwb wta wtb ua ub uc ud cs ds cs2 ds2 h0 n0 v U'.heap L ∧ FrameEnd U o U' L ({ frames := 2, cells := 0, slots := 0, locals := 28 } : Room).cells ({ frames := 2, cells := 0, slots := 0, locals := 28 } : Room).slots) := by
  refine MetFree.of_bodySF (plainFor_of_name own_pn2) hisR ?_
  intro p e s m args below meth c s₁ Bd hml0 hP hK
  obtain ⟨rfl, hZ, hh⟩ := hP
  have hx := Bd.exec
  have hby := Bd.bytes
  have hret := Bd.returns
  have hlk : meth.locks = false := BodyLoose.notSynchronized Bd
  have hml : c.maxLocals = 3 := hml0
  have hown : s.vm.findClass "com/example/eager_query/eagerquery/model/Token" = some m.cls := findClass_of_methodNamed Bd.named
  have hnm := (name_of_methodNamed Bd.named Bd.method).1
  have X0 : Stand p l e ({ frames := 2, cells := 0, slots := 0, locals := 28 } : Room) s m #[(.ref oa), (.ref ob)] below meth c s₁ [] 0 0 := Stand.of_body Bd
  have e0 : s₁.heap = h0 := by rw [← hh, Bd.state]; rfl
  have N0 := Fr.nil n0
  have KK0 : Keep h0 h0 [] := Keep.refl h0 _
  refine own_start (own_QeqE Z oa ob wwa wwb wta wtb ua ub uc ud cs ds cs2 ds2 h0 n0) ?_
  refine own_to (V := s₁.setTop (mkF m 0 #[.val (.ref oa), .val (.ref ob), .unset] [])) ?_ (fun t k => castTop (own_ef_eqE m oa ob ) k)
  obtain ⟨⟨G1, O2, P5⟩, ⟨G3, O4, rG3⟩, ⟨iC, iL, iO1, iO2, iA, iE⟩, -⟩ := id hst
  refine own_to (V := s₁.setTop (mkF m 2 #[.val (.ref oa), .val (.ref ob), .unset] [(.ref ob), (.ref oa)])) ?_ fun t k => (by
    refine XS.aloadN X0.here hx rfl (hb hby own_d_prog_22_m7_0) rfl rfl ?_
    refine XS.aloadN X0.here hx rfl (hb hby own_d_prog_22_m7_1) rfl rfl ?_
    exact k)
  refine own_to (V := s₁.setTop (mkF m 8 #[.val (.ref oa), .val (.ref ob), .unset] [(.ref ob)])) ?_ fun t k => (by
    refine Jvm.RoadKit.acmp (g := (mkF m 2 #[.val (.ref oa), .val (.ref ob), .unset] [(.ref ob), (.ref oa)])) X0 hx rfl rfl rfl (pc0 := 2) (pc' := 7) (same := false) rfl (hb hby own_d_prog_22_m7_2) rfl (decide_eq_false fun q => hne (Value.ref.inj q)) (by decide) (by decide) ?_
    refine XS.aloadN X0.here hx rfl (hb hby own_d_prog_22_m7_7) rfl rfl ?_
    exact k)
  obtain ⟨T101, X101, e101, st101⟩ := instY X0 hx hZ hown (hw _ (List.mem_of_getElem? (i := 66) rfl)) e0 (Ins.self hE2) (g := (mkF m 8 #[.val (.ref oa), .val (.ref ob), .unset] [(.ref ob)])) rfl rfl (hb hby own_d_prog_22_m7_8)
  refine own_to (V := T101.setTop (mkF m 11 #[.val (.ref oa), .val (.ref ob), .unset] [(.int (1 : Int32))])) ?_ st101
  refine own_to (V := T101.setTop (mkF m 17 #[.val (.ref oa), .val (.ref ob), .unset] [(.ref ob)])) ?_ fun t k => (by
    refine XS.ifYes X101.here hx rfl (pc0 := 11) (pc' := 16) rfl (hb hby own_d_prog_22_m7_11) rfl ((if0 _ _).trans (feq ((by decide) : ¬ ((1 : Int32) = (0 : Int32)))).2) (by decide) (by decide) ?_
    refine XS.aloadN X101.here hx rfl (hb hby own_d_prog_22_m7_16) rfl rfl ?_
    exact k)
  obtain ⟨T102, X102, e102, st102⟩ := castY X101 hx hZ hown (hw _ (List.mem_of_getElem? (i := 66) rfl)) e101 (Ins.self hE2) (g := (mkF m 17 #[.val (.ref oa), .val (.ref ob), .unset] [(.ref ob)])) rfl rfl (hb hby own_d_prog_22_m7_17)
  refine own_to (V := T102.setTop (mkF m 20 #[.val (.ref oa), .val (.ref ob), .unset] [(.ref ob)])) ?_ st102
  refine own_to (V := T102.setTop (mkF m 22 #[.val (.ref oa), .val (.ref ob), .val (.ref ob)] [(.ref oa)])) ?_ fun t k => (by
    refine XS.astoreN X102.here hx rfl (hb hby own_d_prog_22_m7_20) rfl rfl (l' := #[.val (.ref oa), .val (.ref ob), .val (.ref ob)]) rfl ?_
    refine XS.aloadN X102.here hx rfl (hb hby own_d_prog_22_m7_21) rfl rfl ?_
    exact k)
  obtain ⟨T103, X103, e103, st103⟩ := getF X102 hx hZ hown (host := "") (Or.inl (hw _ (List.mem_of_getElem? (i := 54) rfl))) Via.refl e102 hF1 (g := (mkF m 22 #[.val (.ref oa), .val (.ref ob), .val (.ref ob)] [(.ref oa)])) rfl rfl (hb hby own_d_prog_22_m7_22)
  refine own_to (V := T103.setTop (mkF m 25 #[.val (.ref oa), .val (.ref ob), .val (.ref ob)] [(.ref wwa)])) ?_ st103
  refine own_to (V := T103.setTop (mkF m 26 #[.val (.ref oa), .val (.ref ob), .val (.ref ob)] [(.ref ob), (.ref wwa)])) ?_ fun t k => (by
    refine XS.aloadN X103.here hx rfl (hb hby own_d_prog_22_m7_25) rfl rfl ?_
    exact k)
  obtain ⟨T104, X104, e104, st104⟩ := getF X103 hx hZ hown (host := "") (Or.inl (hw _ (List.mem_of_getElem? (i := 54) rfl))) Via.refl e103 hF2 (g := (mkF m 26 #[.val (.ref oa), .val (.ref ob), .val (.ref ob)] [(.ref ob), (.ref wwa)])) rfl rfl (hb hby own_d_prog_22_m7_26)
  refine own_to (V := T104.setTop (mkF m 29 #[.val (.ref oa), .val (.ref ob), .val (.ref ob)] [(.ref wwb), (.ref wwa)])) ?_ st104
  obtain ⟨sE106, sd106, sN106, sk106, sv106, sV106, sC106, sK106, sc106, sb106, sl106⟩ := id hS1
  obtain ⟨sE107, sd107, sN107, sk107, sv107, sV107, sC107, sK107, sc107, sb107, sl107⟩ := id hS2
  obtain ⟨cq105, kq105, q105a, q105b, q105c⟩ := isOf hZ e104 hS1.1
  obtain ⟨_, _, ⟨T105, L105, k105, n105⟩, -, X105, ⟨Lc105, hQ105, l105, y105, z105⟩, st105⟩ := X104.virtualBack hx (y := (⟨"java/lang/String", "equals", "(Ljava/lang/Object;)Z"⟩ : MethodName)) (z := (⟨"java/lang/String", "equals", "(Ljava/lang/Object;)Z"⟩ : MethodName)) hown (mvT hZ (hw _ (List.mem_of_getElem? (i := 68) rfl))) (mvT hZ (hw _ (List.mem_of_getElem? (i := 69) rfl))) (notFace_of_selects (args := #[]) (mvT hZ (hw _ (List.mem_of_getElem? (i := 71) rfl)))) (mvT hZ (hw _ (List.mem_of_getElem? (i := 71) rfl))) (mvT hZ (hw _ (List.mem_of_getElem? (i := 70) rfl))) (by decide) (StrChars.Road.eqW (W := 0) hZ (own_heq hw) (kI := 4) (hw _ (List.mem_of_getElem? (i := 6) rfl)) sE106 sV106 sC106 sK106 sc106 sb106 sl106 sE107 sV107 sC107 sK107 sc107 sb107 sl107 (O2.ext X00.2) P5 (by decide) (by decide)) q105a q105c (g := (mkF m 29 #[.val (.ref oa), .val (.ref ob), .val (.ref ob)] [(.ref wwb), (.ref wwa)])) rfl (by rw [hml]; rfl) (Steps.refl _) (argsL := [(.ref wwb)]) (rest := []) (lenOf own_pd5 rfl) rfl (by show 2 * 0 + _ ≤ _; exact Nat.le_of_eq rfl) (hb hby own_d_prog_22_m7_29) (fun _ _ => ⟨rfl, e104, (by decide : 0 + 0 ≤ _), (by decide : 0 + 0 ≤ _)⟩)
  dsimp only [Pt.U, Pt.locs, Pt.cells, Pt.slots] at X105 l105 y105 z105 st105 hQ105
  subst l105 y105 z105
  obtain ⟨hv105, hL105, hh105⟩ := hQ105
  subst hL105
  have N105 := Fr.app N0 (Fr.nil n0)
  rcases hv105 with ⟨hv105, hq105⟩ | ⟨hv105, hq105⟩
  · skip
    subst hv105
    refine own_to (V := T105.setTop (mkF m 32 #[.val (.ref oa), .val (.ref ob), .val (.ref ob)] [(.int (1 : Int32))])) ?_ (fun t k => st105.trans k)
    refine own_to (V := T105.setTop (mkF m 36 #[.val (.ref oa), .val (.ref ob), .val (.ref ob)] [(.ref oa)])) ?_ fun t k => (by
      refine XS.ifNo X105.here hx rfl (hb hby own_d_prog_22_m7_32) rfl ((if0 _ _).trans (feq ((by decide) : ¬ ((1 : Int32) = (0 : Int32)))).1) ?_
      refine XS.aloadN X105.here hx rfl (hb hby own_d_prog_22_m7_35) rfl rfl ?_
      exact k)
    obtain ⟨T108, X108, e108, st108⟩ := getF X105 hx hZ hown (host := "") (Or.inl (hw _ (List.mem_of_getElem? (i := 56) rfl))) Via.refl hh105 hF3 (g := (mkF m 36 #[.val (.ref oa), .val (.ref ob), .val (.ref ob)] [(.ref oa)])) rfl rfl (hb hby own_d_prog_22_m7_36)
    refine own_to (V := T108.setTop (mkF m 39 #[.val (.ref oa), .val (.ref ob), .val (.ref ob)] [(.ref wta)])) ?_ st108
    refine own_to (V := T108.setTop (mkF m 40 #[.val (.ref oa), .val (.ref ob), .val (.ref ob)] [(.ref ob), (.ref wta)])) ?_ fun t k => (by
      refine XS.aloadN X108.here hx rfl (hb hby own_d_prog_22_m7_39) rfl rfl ?_
      exact k)
    obtain ⟨T109, X109, e109, st109⟩ := getF X108 hx hZ hown (host := "") (Or.inl (hw _ (List.mem_of_getElem? (i := 56) rfl))) Via.refl e108 hF4 (g := (mkF m 40 #[.val (.ref oa), .val (.ref ob), .val (.ref ob)] [(.ref ob), (.ref wta)])) rfl rfl (hb hby own_d_prog_22_m7_40)
    refine own_to (V := T109.setTop (mkF m 43 #[.val (.ref oa), .val (.ref ob), .val (.ref ob)] [(.ref wtb), (.ref wta)])) ?_ st109
    obtain ⟨sE111, sd111, sN111, sk111, sv111, sV111, sC111, sK111, sc111, sb111, sl111⟩ := id hS3
    obtain ⟨sE112, sd112, sN112, sk112, sv112, sV112, sC112, sK112, sc112, sb112, sl112⟩ := id hS4
    obtain ⟨cq110, kq110, q110a, q110b, q110c⟩ := isOf hZ e109 hS3.1
    obtain ⟨_, _, ⟨T110, L110, k110, n110⟩, -, X110, ⟨Lc110, hQ110, l110, y110, z110⟩, st110⟩ := X109.virtualBack hx (y := (⟨"java/lang/String", "equals", "(Ljava/lang/Object;)Z"⟩ : MethodName)) (z := (⟨"java/lang/String", "equals", "(Ljava/lang/Object;)Z"⟩ : MethodName)) hown (mvT hZ (hw _ (List.mem_of_getElem? (i := 68) rfl))) (mvT hZ (hw _ (List.mem_of_getElem? (i := 69) rfl))) (notFace_of_selects (args := #[]) (mvT hZ (hw _ (List.mem_of_getElem? (i := 71) rfl)))) (mvT hZ (hw _ (List.mem_of_getElem? (i := 71) rfl))) (mvT hZ (hw _ (List.mem_of_getElem? (i := 70) rfl))) (by decide) (StrChars.Road.eqW (W := 0) hZ (own_heq hw) (kI := 4) (hw _ (List.mem_of_getElem? (i := 6) rfl)) sE111 sV111 sC111 sK111 sc111 sb111 sl111 sE112 sV112 sC112 sK112 sc112 sb112 sl112 (O2.ext X00.2) P5 (by decide) (by decide)) q110a q110c (g := (mkF m 43 #[.val (.ref oa), .val (.ref ob), .val (.ref ob)] [(.ref wtb), (.ref wta)])) rfl (by rw [hml]; rfl) (Steps.refl _) (argsL := [(.ref wtb)]) (rest := []) (lenOf own_pd5 rfl) rfl (by show 2 * 0 + _ ≤ _; exact Nat.le_of_eq rfl) (hb hby own_d_prog_22_m7_43) (fun _ _ => ⟨rfl, e109, (by decide : 0 + 0 ≤ _), (by decide : 0 + 0 ≤ _)⟩)
    dsimp only [Pt.U, Pt.locs, Pt.cells, Pt.slots] at X110 l110 y110 z110 st110 hQ110
    subst l110 y110 z110
    obtain ⟨hv110, hL110, hh110⟩ := hQ110
    subst hL110
    have N110 := Fr.app N105 (Fr.nil n0)
    rcases hv110 with ⟨hv110, hq110⟩ | ⟨hv110, hq110⟩
    · skip
      subst hv110
      refine own_to (V := T110.setTop (mkF m 46 #[.val (.ref oa), .val (.ref ob), .val (.ref ob)] [(.int (1 : Int32))])) ?_ (fun t k => st110.trans k)
      refine own_to (V := T110.setTop (mkF m 54 #[.val (.ref oa), .val (.ref ob), .val (.ref ob)] [(.int (1 : Int32))])) ?_ fun t k => (by
        refine XS.ifNo X110.here hx rfl (hb hby own_d_prog_22_m7_46) rfl ((if0 _ _).trans (feq ((by decide) : ¬ ((1 : Int32) = (0 : Int32)))).1) ?_
        refine XS.iconst X110.here hx rfl (hb hby own_d_prog_22_m7_49) ?_
        refine XS.goto X110.here hx rfl (pc0 := 50) (pc' := 54) rfl (hb hby own_d_prog_22_m7_50) (by decide) (by decide) ?_
        exact k)
      exact own_retN X110 hx (t := .boolean) (w := (1 : Int32)) hret (by decide) rfl hlk (hb hby own_d_prog_22_m7_54) (by rw [hh110]; exact (Or.inl ⟨rfl, N110, KK0, ⟨hq105, hq110⟩⟩)) (by decide) (by decide)
    · skip
      subst hv110
      refine own_to (V := T110.setTop (mkF m 46 #[.val (.ref oa), .val (.ref ob), .val (.ref ob)] [(.int (0 : Int32))])) ?_ (fun t k => st110.trans k)
      refine own_to (V := T110.setTop (mkF m 54 #[.val (.ref oa), .val (.ref ob), .val (.ref ob)] [(.int (0 : Int32))])) ?_ fun t k => (by
        refine XS.ifYes X110.here hx rfl (pc0 := 46) (pc' := 53) rfl (hb hby own_d_prog_22_m7_46) rfl ((if0 _ _).trans (teq ((by decide) : (0 : Int32) = (0 : Int32))).1) (by decide) (by decide) ?_
        refine XS.iconst X110.here hx rfl (hb hby own_d_prog_22_m7_53) ?_
        exact k)
      exact own_retN X110 hx (t := .boolean) (w := (0 : Int32)) hret (by decide) rfl hlk (hb hby own_d_prog_22_m7_54) (by rw [hh110]; exact (Or.inr (⟨rfl, N110, KK0, (fun q => hq110 q.2)⟩))) (by decide) (by decide)
  · skip
    subst hv105
    refine own_to (V := T105.setTop (mkF m 32 #[.val (.ref oa), .val (.ref ob), .val (.ref ob)] [(.int (0 : Int32))])) ?_ (fun t k => st105.trans k)
    refine own_to (V := T105.setTop (mkF m 54 #[.val (.ref oa), .val (.ref ob), .val (.ref ob)] [(.int (0 : Int32))])) ?_ fun t k => (by
      refine XS.ifYes X105.here hx rfl (pc0 := 32) (pc' := 53) rfl (hb hby own_d_prog_22_m7_32) rfl ((if0 _ _).trans (teq ((by decide) : (0 : Int32) = (0 : Int32))).1) (by decide) (by decide) ?_
      refine XS.iconst X105.here hx rfl (hb hby own_d_prog_22_m7_53) ?_
      exact k)
    exact own_retN X105 hx (t := .boolean) (w := (0 : Int32)) hret (by decide) rfl hlk (hb hby own_d_prog_22_m7_54) (by rw [hh105]; exact (Or.inr (⟨rfl, N105, KK0, (fun q => hq105 q.1)⟩))) (by decide) (by decide)
def own_Qlaw (Z : State) (qw : Int32) (qt : Int32) (qv : Int32) (qu : Int32) (qf : Int32) (h0 : Heap) (n0 : Nat) (v : Option Value) (h : Heap) (L : List Loc) : Prop := (v = some (.int (1 : Int32)) ∧ Fr n0 L ∧ Keep h0 h [])
set_option maxRecDepth 65536 in
set_option maxHeartbeats 40000000 in
theorem own_sglaw2 (l : Launch) (Z : State) (a0 : Array Value) (hw : ∀ d ∈ tables_1, d.before a0 Z = true) (hst : own_St Z) (qw : Int32) (qt : Int32) (qv : Int32) (qu : Int32) (qf : Int32) (h0 : Heap) (n0 : Nat) (v5 : Int32) (v6 : Int32) (v7 : Int32) (v8 : Int32) (v9 : Int32) (v10 : Int32) (v11 : Int32) (v12 : Int32) (v13 : Int32) (v14 : Int32) (v15 : Int32) (v16 : Int32) (v17 : Int32) (v18 : Int32) (v19 : Int32) (v26 : Int32) (o20 : Addr) (o21 : Addr) (o22 : Addr) (o23 : Addr) (o24 : Addr) (o25 : Addr) (u20 : Addr) (u21 : Addr) (u22 : Addr) (u23 : Addr)
    {p : Program} {e : Env} {s : State} {m : MethodId} {args : Array Value} {below : List Frame} {meth : Method} {c : Code} (hx : p.tables.exec = Jvm.exec) (hby : c.code = code) (hret : meth.sig.returnType = ret) (hlk : meth.locks = false) (hml : c.maxLocals = 27) (hnm : meth.name = "law") {vm0 : Vm} {k0 : Nat} (hS0 : s.Since vm0 k0) (hZ : Z.Warmed39 (s.setVm vm0).vm) (hown : (s.setVm vm0).vm.findClass "com/example/eager_query/eagerquery/model/TokenEqualsPinLaw" = some m.cls)
    {T0 : State} {locs : List Loc} {h : Heap} (X0 : Stand p l e room_1 (s.setVm vm0) m args below meth c T0 locs 26 120) (e0 : T0.heap = h) (hk0 : k0 ≤ h.size) (N0 : Fr n0 locs) (Xo0 : Old Z n0 h) (KK0 : Keep h0 h []) (S20 : own_Str Z h o20 u20 (own_tok v5 v12 v13)) (S21 : own_Str Z h o21 u21 (own_tok v6 v14 v15)) (S22 : own_Str Z h o22 u22 (own_tok v7 v16 v17)) (S23 : own_Str Z h o23 u23 (own_tok v8 v18 v19)) (E24 : Exa Z h o24 "com/example/eager_query/eagerquery/model/Token") (E25 : Exa Z h o25 "com/example/eager_query/eagerquery/model/Token") (F1 : Fld Z h o24 "com/example/eager_query/eagerquery/model/Token" "word" "Ljava/lang/String;" (.ref o20)) (F2 : Fld Z h o24 "com/example/eager_query/eagerquery/model/Token" "tag" "Ljava/lang/String;" (.ref o21)) (F3 : Fld Z h o25 "com/example/eager_query/eagerquery/model/Token" "word" "Ljava/lang/String;" (.ref o22)) (F4 : Fld Z h o25 "com/example/eager_query/eagerquery/model/Token" "tag" "Ljava/lang/String;" (.ref o23)) (nn : o24 ≠ o25) (hD : (v26 = (1 : Int32) ∧ (own_tok v5 v12 v13) = (own_tok v7 v16 v17) ∧ (own_tok v6 v14 v15) = (own_tok v8 v18 v19)) ∨ (v26 = (0 : Int32) ∧ ¬ ((own_tok v5 v12 v13) = (own_tok v7 v16 v17) ∧ (own_tok v6 v14 v15) = (own_tok v8 v18 v19)))) :
    own_Go p e below (own_PostW s (own_Qlaw Z qw qt qv qu qf h0 n0) room_1.cells room_1.slots) (T0.setTop (mkF m 341 #[.val (.int qw), .val (.int qt), .val (.int qv), .val (.int qu), .val (.int qf), .val (.int v5), .val (.int v6), .val (.int v7), .val (.int v8), .val (.int v9), .val (.int v10), .val (.int v11), .val (.int v12), .val (.int v13), .val (.int v14), .val (.int v15), .val (.int v16), .val (.int v17), .val (.int v18), .val (.int v19), .val (.ref o20), .val (.ref o21), .val (.ref o22), .val (.ref o23), .val (.ref o24), .val (.ref o25), .val (.int v26)] [])) := by
  obtain ⟨⟨G1, O2, P5⟩, ⟨G3, O4, rG3⟩, ⟨iC, iL, iO1, iO2, iA, iE⟩, -⟩ := id hst
  refine own_to (V := T0.setTop (mkF m 345 #[.val (.int qw), .val (.int qt), .val (.int qv), .val (.int qu), .val (.int qf), .val (.int v5), .val (.int v6), .val (.int v7), .val (.int v8), .val (.int v9), .val (.int v10), .val (.int v11), .val (.int v12), .val (.int v13), .val (.int v14), .val (.int v15), .val (.int v16), .val (.int v17), .val (.int v18), .val (.int v19), .val (.ref o20), .val (.ref o21), .val (.ref o22), .val (.ref o23), .val (.ref o24), .val (.ref o25), .val (.int v26)] [(.ref o25), (.ref o24)])) ?_ fun t k => (by
    refine XS.aload X0.here hx rfl (hb hby at_341) rfl rfl ?_
    refine XS.aload X0.here hx rfl (hb hby at_343) rfl rfl ?_
    exact k)
  obtain ⟨cq101, kq101, q101a, q101b, q101c⟩ := isOf hZ e0 E24
  obtain ⟨_, _, ⟨T101, L101, k101, n101⟩, -, X101, ⟨Lc101, hQ101, l101, y101, z101⟩, st101⟩ := X0.virtualBack hx (y := (⟨"com/example/eager_query/eagerquery/model/Token", "equals", "(Ljava/lang/Object;)Z"⟩ : MethodName)) (z := (⟨"com/example/eager_query/eagerquery/model/Token", "equals", "(Ljava/lang/Object;)Z"⟩ : MethodName)) hown (mvT hZ (hw _ (List.mem_of_getElem? (i := 61) rfl))) (mvT hZ (hw _ (List.mem_of_getElem? (i := 62) rfl))) (notFace_of_selects (args := #[]) (mvT hZ (hw _ (List.mem_of_getElem? (i := 64) rfl)))) (mvT hZ (hw _ (List.mem_of_getElem? (i := 64) rfl))) (mvT hZ (hw _ (List.mem_of_getElem? (i := 63) rfl))) (by decide) (backOf (W := 0) (own_rmeqE l Z a0 hw hst [] o24 o25 o20 o22 o21 o23 u20 u22 u21 u23 (own_tok v5 v12 v13) (own_tok v7 v16 v17) (own_tok v6 v14 v15) (own_tok v8 v18 v19) h n0 Xo0 E24 E25 nn F1 F3 F2 F4 S20 S22 S21 S23) hZ (hw _ (List.mem_of_getElem? (i := 65) rfl)) (hw _ (List.mem_of_getElem? (i := 36) rfl)) (by decide) (by decide)) q101a q101c (g := (mkF m 345 #[.val (.int qw), .val (.int qt), .val (.int qv), .val (.int qu), .val (.int qf), .val (.int v5), .val (.int v6), .val (.int v7), .val (.int v8), .val (.int v9), .val (.int v10), .val (.int v11), .val (.int v12), .val (.int v13), .val (.int v14), .val (.int v15), .val (.int v16), .val (.int v17), .val (.int v18), .val (.int v19), .val (.ref o20), .val (.ref o21), .val (.ref o22), .val (.ref o23), .val (.ref o24), .val (.ref o25), .val (.int v26)] [(.ref o25), (.ref o24)])) rfl (by rw [hml]; rfl) (Steps.refl _) (argsL := [(.ref o25)]) (rest := []) (lenOf own_pd5 rfl) rfl (by show 2 * 0 + _ ≤ _; exact Nat.le_of_eq rfl) (hb hby at_345) (fun _ _ => ⟨rfl, e0, (by decide : 26 + 0 ≤ _), (by decide : 120 + 0 ≤ _)⟩)
  dsimp only [Pt.U, Pt.locs, Pt.cells, Pt.slots] at X101 l101 y101 z101 st101 hQ101
  subst l101 y101 z101
  rcases hQ101 with ⟨hv101, N101q, K101, g101_0⟩ | ⟨hv101, N101q, K101, g101_0⟩
  · skip
    subst hv101
    obtain ⟨h101, e101⟩ : ∃ z, T101.heap = z := ⟨_, rfl⟩
    rw [e101] at K101
    have Xo101 : Old Z n0 h101 := Xo0.keep K101 all0
    have KK101 : Keep h0 h101 [] := KK0.trans K101 all0
    have N101 := Fr.app N0 N101q
    refine own_to (V := T101.setTop (mkF m 348 #[.val (.int qw), .val (.int qt), .val (.int qv), .val (.int qu), .val (.int qf), .val (.int v5), .val (.int v6), .val (.int v7), .val (.int v8), .val (.int v9), .val (.int v10), .val (.int v11), .val (.int v12), .val (.int v13), .val (.int v14), .val (.int v15), .val (.int v16), .val (.int v17), .val (.int v18), .val (.int v19), .val (.ref o20), .val (.ref o21), .val (.ref o22), .val (.ref o23), .val (.ref o24), .val (.ref o25), .val (.int v26)] [(.int (1 : Int32))])) ?_ (fun t k => st101.trans k)
    refine own_to (V := T101.setTop (mkF m 357 #[.val (.int qw), .val (.int qt), .val (.int qv), .val (.int qu), .val (.int qf), .val (.int v5), .val (.int v6), .val (.int v7), .val (.int v8), .val (.int v9), .val (.int v10), .val (.int v11), .val (.int v12), .val (.int v13), .val (.int v14), .val (.int v15), .val (.int v16), .val (.int v17), .val (.int v18), .val (.int v19), .val (.ref o20), .val (.ref o21), .val (.ref o22), .val (.ref o23), .val (.ref o24), .val (.ref o25), .val (.int v26)] [(.ref o24), (.ref o25)])) ?_ fun t k => (by
      refine XS.iload X101.here hx rfl (hb hby at_348) rfl ?_
      refine XS.icmpNo X101.here hx rfl (hb hby at_350) rfl (teq ((own_y1 hD g101_0) : (1 : Int32) = v26)).2 ?_
      refine XS.aload X101.here hx rfl (hb hby at_353) rfl rfl ?_
      refine XS.aload X101.here hx rfl (hb hby at_355) rfl rfl ?_
      exact k)
    have F103 : Exa Z h101 o25 "com/example/eager_query/eagerquery/model/Token" := (E25.keep K101)
    have F104 : Exa Z h101 o24 "com/example/eager_query/eagerquery/model/Token" := (E24.keep K101)
    have F105 : Fld Z h101 o25 "com/example/eager_query/eagerquery/model/Token" "word" "Ljava/lang/String;" (.ref o22) := (F3.keep K101 List.not_mem_nil)
    have F106 : Fld Z h101 o24 "com/example/eager_query/eagerquery/model/Token" "word" "Ljava/lang/String;" (.ref o20) := (F1.keep K101 List.not_mem_nil)
    have F107 : Fld Z h101 o25 "com/example/eager_query/eagerquery/model/Token" "tag" "Ljava/lang/String;" (.ref o23) := (F4.keep K101 List.not_mem_nil)
    have F108 : Fld Z h101 o24 "com/example/eager_query/eagerquery/model/Token" "tag" "Ljava/lang/String;" (.ref o21) := (F2.keep K101 List.not_mem_nil)
    have F109 : own_Str Z h101 o22 u22 (own_tok v7 v16 v17) := (S22.keep K101 List.not_mem_nil List.not_mem_nil)
    have F110 : own_Str Z h101 o20 u20 (own_tok v5 v12 v13) := (S20.keep K101 List.not_mem_nil List.not_mem_nil)
    have F111 : own_Str Z h101 o23 u23 (own_tok v8 v18 v19) := (S23.keep K101 List.not_mem_nil List.not_mem_nil)
    have F112 : own_Str Z h101 o21 u21 (own_tok v6 v14 v15) := (S21.keep K101 List.not_mem_nil List.not_mem_nil)
    obtain ⟨cq102, kq102, q102a, q102b, q102c⟩ := isOf hZ e101 F103
    obtain ⟨_, _, ⟨T102, L102, k102, n102⟩, -, X102, ⟨Lc102, hQ102, l102, y102, z102⟩, st102⟩ := X101.virtualBack hx (y := (⟨"com/example/eager_query/eagerquery/model/Token", "equals", "(Ljava/lang/Object;)Z"⟩ : MethodName)) (z := (⟨"com/example/eager_query/eagerquery/model/Token", "equals", "(Ljava/lang/Object;)Z"⟩ : MethodName)) hown (mvT hZ (hw _ (List.mem_of_getElem? (i := 61) rfl))) (mvT hZ (hw _ (List.mem_of_getElem? (i := 62) rfl))) (notFace_of_selects (args := #[]) (mvT hZ (hw _ (List.mem_of_getElem? (i := 64) rfl)))) (mvT hZ (hw _ (List.mem_of_getElem? (i := 64) rfl))) (mvT hZ (hw _ (List.mem_of_getElem? (i := 63) rfl))) (by decide) (backOf (W := 0) (own_rmeqE l Z a0 hw hst [] o25 o24 o22 o20 o23 o21 u22 u20 u23 u21 (own_tok v7 v16 v17) (own_tok v5 v12 v13) (own_tok v8 v18 v19) (own_tok v6 v14 v15) h101 n0 Xo101 F103 F104 (Ne.symm nn) F105 F106 F107 F108 F109 F110 F111 F112) hZ (hw _ (List.mem_of_getElem? (i := 65) rfl)) (hw _ (List.mem_of_getElem? (i := 36) rfl)) (by decide) (by decide)) q102a q102c (g := (mkF m 357 #[.val (.int qw), .val (.int qt), .val (.int qv), .val (.int qu), .val (.int qf), .val (.int v5), .val (.int v6), .val (.int v7), .val (.int v8), .val (.int v9), .val (.int v10), .val (.int v11), .val (.int v12), .val (.int v13), .val (.int v14), .val (.int v15), .val (.int v16), .val (.int v17), .val (.int v18), .val (.int v19), .val (.ref o20), .val (.ref o21), .val (.ref o22), .val (.ref o23), .val (.ref o24), .val (.ref o25), .val (.int v26)] [(.ref o24), (.ref o25)])) rfl (by rw [hml]; rfl) (Steps.refl _) (argsL := [(.ref o24)]) (rest := []) (lenOf own_pd5 rfl) rfl (by show 2 * 0 + _ ≤ _; exact Nat.le_of_eq rfl) (hb hby at_357) (fun _ _ => ⟨rfl, e101, (by decide : 26 + 0 ≤ _), (by decide : 120 + 0 ≤ _)⟩)
    dsimp only [Pt.U, Pt.locs, Pt.cells, Pt.slots] at X102 l102 y102 z102 st102 hQ102
    subst l102 y102 z102
    rcases hQ102 with ⟨hv102, N102q, K102, g102_0⟩ | ⟨hv102, N102q, K102, g102_0⟩
    · skip
      subst hv102
      obtain ⟨h102, e102⟩ : ∃ z, T102.heap = z := ⟨_, rfl⟩
      rw [e102] at K102
      have Xo102 : Old Z n0 h102 := Xo101.keep K102 all0
      have KK102 : Keep h0 h102 [] := KK101.trans K102 all0
      have N102 := Fr.app N101 N102q
      refine own_to (V := T102.setTop (mkF m 360 #[.val (.int qw), .val (.int qt), .val (.int qv), .val (.int qu), .val (.int qf), .val (.int v5), .val (.int v6), .val (.int v7), .val (.int v8), .val (.int v9), .val (.int v10), .val (.int v11), .val (.int v12), .val (.int v13), .val (.int v14), .val (.int v15), .val (.int v16), .val (.int v17), .val (.int v18), .val (.int v19), .val (.ref o20), .val (.ref o21), .val (.ref o22), .val (.ref o23), .val (.ref o24), .val (.ref o25), .val (.int v26)] [(.int (1 : Int32))])) ?_ (fun t k => st102.trans k)
      refine own_to (V := T102.setTop (mkF m 370 #[.val (.int qw), .val (.int qt), .val (.int qv), .val (.int qu), .val (.int qf), .val (.int v5), .val (.int v6), .val (.int v7), .val (.int v8), .val (.int v9), .val (.int v10), .val (.int v11), .val (.int v12), .val (.int v13), .val (.int v14), .val (.int v15), .val (.int v16), .val (.int v17), .val (.int v18), .val (.int v19), .val (.ref o20), .val (.ref o21), .val (.ref o22), .val (.ref o23), .val (.ref o24), .val (.ref o25), .val (.int v26)] [(.int (1 : Int32))])) ?_ fun t k => (by
        refine XS.iload X102.here hx rfl (hb hby at_360) rfl ?_
        refine XS.icmpNo X102.here hx rfl (hb hby at_362) rfl (teq ((own_y1 hD (own_sw g102_0)) : (1 : Int32) = v26)).2 ?_
        refine XS.iconst X102.here hx rfl (hb hby at_365) ?_
        refine XS.goto X102.here hx rfl (pc0 := 366) (pc' := 370) rfl (hb hby at_366) (by decide) (by decide) ?_
        exact k)
      exact own_retNW X102 hx hS0 (own_hk e102 (Nat.le_trans (Nat.le_trans hk0 K101.1) K102.1)) (t := .boolean) (w := (1 : Int32)) hret (by decide) rfl hlk (hb hby at_370) (by rw [e102]; exact (⟨rfl, N102, KK102⟩)) (by decide) (by decide)
    · skip
      subst hv102
      obtain ⟨h102, e102⟩ : ∃ z, T102.heap = z := ⟨_, rfl⟩
      rw [e102] at K102
      have Xo102 : Old Z n0 h102 := Xo101.keep K102 all0
      have KK102 : Keep h0 h102 [] := KK101.trans K102 all0
      have N102 := Fr.app N101 N102q
      refine own_to (V := T102.setTop (mkF m 360 #[.val (.int qw), .val (.int qt), .val (.int qv), .val (.int qu), .val (.int qf), .val (.int v5), .val (.int v6), .val (.int v7), .val (.int v8), .val (.int v9), .val (.int v10), .val (.int v11), .val (.int v12), .val (.int v13), .val (.int v14), .val (.int v15), .val (.int v16), .val (.int v17), .val (.int v18), .val (.int v19), .val (.ref o20), .val (.ref o21), .val (.ref o22), .val (.ref o23), .val (.ref o24), .val (.ref o25), .val (.int v26)] [(.int (0 : Int32))])) ?_ (fun t k => st102.trans k)
      refine own_to (V := T102.setTop (mkF m 370 #[.val (.int qw), .val (.int qt), .val (.int qv), .val (.int qu), .val (.int qf), .val (.int v5), .val (.int v6), .val (.int v7), .val (.int v8), .val (.int v9), .val (.int v10), .val (.int v11), .val (.int v12), .val (.int v13), .val (.int v14), .val (.int v15), .val (.int v16), .val (.int v17), .val (.int v18), .val (.int v19), .val (.ref o20), .val (.ref o21), .val (.ref o22), .val (.ref o23), .val (.ref o24), .val (.ref o25), .val (.int v26)] [(.int (1 : Int32))])) ?_ fun t k => (by
        refine XS.iload X102.here hx rfl (hb hby at_360) rfl ?_
        refine XS.icmpNo X102.here hx rfl (hb hby at_362) rfl (teq ((own_y0 hD (fun q => g102_0 (own_sw q))) : (0 : Int32) = v26)).2 ?_
        refine XS.iconst X102.here hx rfl (hb hby at_365) ?_
        refine XS.goto X102.here hx rfl (pc0 := 366) (pc' := 370) rfl (hb hby at_366) (by decide) (by decide) ?_
        exact k)
      exact own_retNW X102 hx hS0 (own_hk e102 (Nat.le_trans (Nat.le_trans hk0 K101.1) K102.1)) (t := .boolean) (w := (1 : Int32)) hret (by decide) rfl hlk (hb hby at_370) (by rw [e102]; exact (⟨rfl, N102, KK102⟩)) (by decide) (by decide)
  · skip
    subst hv101
    obtain ⟨h101, e101⟩ : ∃ z, T101.heap = z := ⟨_, rfl⟩
    rw [e101] at K101
    have Xo101 : Old Z n0 h101 := Xo0.keep K101 all0
    have KK101 : Keep h0 h101 [] := KK0.trans K101 all0
    have N101 := Fr.app N0 N101q
    refine own_to (V := T101.setTop (mkF m 348 #[.val (.int qw), .val (.int qt), .val (.int qv), .val (.int qu), .val (.int qf), .val (.int v5), .val (.int v6), .val (.int v7), .val (.int v8), .val (.int v9), .val (.int v10), .val (.int v11), .val (.int v12), .val (.int v13), .val (.int v14), .val (.int v15), .val (.int v16), .val (.int v17), .val (.int v18), .val (.int v19), .val (.ref o20), .val (.ref o21), .val (.ref o22), .val (.ref o23), .val (.ref o24), .val (.ref o25), .val (.int v26)] [(.int (0 : Int32))])) ?_ (fun t k => st101.trans k)
    refine own_to (V := T101.setTop (mkF m 357 #[.val (.int qw), .val (.int qt), .val (.int qv), .val (.int qu), .val (.int qf), .val (.int v5), .val (.int v6), .val (.int v7), .val (.int v8), .val (.int v9), .val (.int v10), .val (.int v11), .val (.int v12), .val (.int v13), .val (.int v14), .val (.int v15), .val (.int v16), .val (.int v17), .val (.int v18), .val (.int v19), .val (.ref o20), .val (.ref o21), .val (.ref o22), .val (.ref o23), .val (.ref o24), .val (.ref o25), .val (.int v26)] [(.ref o24), (.ref o25)])) ?_ fun t k => (by
      refine XS.iload X101.here hx rfl (hb hby at_348) rfl ?_
      refine XS.icmpNo X101.here hx rfl (hb hby at_350) rfl (teq ((own_y0 hD g101_0) : (0 : Int32) = v26)).2 ?_
      refine XS.aload X101.here hx rfl (hb hby at_353) rfl rfl ?_
      refine XS.aload X101.here hx rfl (hb hby at_355) rfl rfl ?_
      exact k)
    have F114 : Exa Z h101 o25 "com/example/eager_query/eagerquery/model/Token" := (E25.keep K101)
    have F115 : Exa Z h101 o24 "com/example/eager_query/eagerquery/model/Token" := (E24.keep K101)
    have F116 : Fld Z h101 o25 "com/example/eager_query/eagerquery/model/Token" "word" "Ljava/lang/String;" (.ref o22) := (F3.keep K101 List.not_mem_nil)
    have F117 : Fld Z h101 o24 "com/example/eager_query/eagerquery/model/Token" "word" "Ljava/lang/String;" (.ref o20) := (F1.keep K101 List.not_mem_nil)
    have F118 : Fld Z h101 o25 "com/example/eager_query/eagerquery/model/Token" "tag" "Ljava/lang/String;" (.ref o23) := (F4.keep K101 List.not_mem_nil)
    have F119 : Fld Z h101 o24 "com/example/eager_query/eagerquery/model/Token" "tag" "Ljava/lang/String;" (.ref o21) := (F2.keep K101 List.not_mem_nil)
    have F120 : own_Str Z h101 o22 u22 (own_tok v7 v16 v17) := (S22.keep K101 List.not_mem_nil List.not_mem_nil)
    have F121 : own_Str Z h101 o20 u20 (own_tok v5 v12 v13) := (S20.keep K101 List.not_mem_nil List.not_mem_nil)
    have F122 : own_Str Z h101 o23 u23 (own_tok v8 v18 v19) := (S23.keep K101 List.not_mem_nil List.not_mem_nil)
    have F123 : own_Str Z h101 o21 u21 (own_tok v6 v14 v15) := (S21.keep K101 List.not_mem_nil List.not_mem_nil)
    obtain ⟨cq113, kq113, q113a, q113b, q113c⟩ := isOf hZ e101 F114
    obtain ⟨_, _, ⟨T113, L113, k113, n113⟩, -, X113, ⟨Lc113, hQ113, l113, y113, z113⟩, st113⟩ := X101.virtualBack hx (y := (⟨"com/example/eager_query/eagerquery/model/Token", "equals", "(Ljava/lang/Object;)Z"⟩ : MethodName)) (z := (⟨"com/example/eager_query/eagerquery/model/Token", "equals", "(Ljava/lang/Object;)Z"⟩ : MethodName)) hown (mvT hZ (hw _ (List.mem_of_getElem? (i := 61) rfl))) (mvT hZ (hw _ (List.mem_of_getElem? (i := 62) rfl))) (notFace_of_selects (args := #[]) (mvT hZ (hw _ (List.mem_of_getElem? (i := 64) rfl)))) (mvT hZ (hw _ (List.mem_of_getElem? (i := 64) rfl))) (mvT hZ (hw _ (List.mem_of_getElem? (i := 63) rfl))) (by decide) (backOf (W := 0) (own_rmeqE l Z a0 hw hst [] o25 o24 o22 o20 o23 o21 u22 u20 u23 u21 (own_tok v7 v16 v17) (own_tok v5 v12 v13) (own_tok v8 v18 v19) (own_tok v6 v14 v15) h101 n0 Xo101 F114 F115 (Ne.symm nn) F116 F117 F118 F119 F120 F121 F122 F123) hZ (hw _ (List.mem_of_getElem? (i := 65) rfl)) (hw _ (List.mem_of_getElem? (i := 36) rfl)) (by decide) (by decide)) q113a q113c (g := (mkF m 357 #[.val (.int qw), .val (.int qt), .val (.int qv), .val (.int qu), .val (.int qf), .val (.int v5), .val (.int v6), .val (.int v7), .val (.int v8), .val (.int v9), .val (.int v10), .val (.int v11), .val (.int v12), .val (.int v13), .val (.int v14), .val (.int v15), .val (.int v16), .val (.int v17), .val (.int v18), .val (.int v19), .val (.ref o20), .val (.ref o21), .val (.ref o22), .val (.ref o23), .val (.ref o24), .val (.ref o25), .val (.int v26)] [(.ref o24), (.ref o25)])) rfl (by rw [hml]; rfl) (Steps.refl _) (argsL := [(.ref o24)]) (rest := []) (lenOf own_pd5 rfl) rfl (by show 2 * 0 + _ ≤ _; exact Nat.le_of_eq rfl) (hb hby at_357) (fun _ _ => ⟨rfl, e101, (by decide : 26 + 0 ≤ _), (by decide : 120 + 0 ≤ _)⟩)
    dsimp only [Pt.U, Pt.locs, Pt.cells, Pt.slots] at X113 l113 y113 z113 st113 hQ113
    subst l113 y113 z113
    rcases hQ113 with ⟨hv113, N113q, K113, g113_0⟩ | ⟨hv113, N113q, K113, g113_0⟩
    · skip
      subst hv113
      obtain ⟨h113, e113⟩ : ∃ z, T113.heap = z := ⟨_, rfl⟩
      rw [e113] at K113
      have Xo113 : Old Z n0 h113 := Xo101.keep K113 all0
      have KK113 : Keep h0 h113 [] := KK101.trans K113 all0
      have N113 := Fr.app N101 N113q
      refine own_to (V := T113.setTop (mkF m 360 #[.val (.int qw), .val (.int qt), .val (.int qv), .val (.int qu), .val (.int qf), .val (.int v5), .val (.int v6), .val (.int v7), .val (.int v8), .val (.int v9), .val (.int v10), .val (.int v11), .val (.int v12), .val (.int v13), .val (.int v14), .val (.int v15), .val (.int v16), .val (.int v17), .val (.int v18), .val (.int v19), .val (.ref o20), .val (.ref o21), .val (.ref o22), .val (.ref o23), .val (.ref o24), .val (.ref o25), .val (.int v26)] [(.int (1 : Int32))])) ?_ (fun t k => st113.trans k)
      refine own_to (V := T113.setTop (mkF m 370 #[.val (.int qw), .val (.int qt), .val (.int qv), .val (.int qu), .val (.int qf), .val (.int v5), .val (.int v6), .val (.int v7), .val (.int v8), .val (.int v9), .val (.int v10), .val (.int v11), .val (.int v12), .val (.int v13), .val (.int v14), .val (.int v15), .val (.int v16), .val (.int v17), .val (.int v18), .val (.int v19), .val (.ref o20), .val (.ref o21), .val (.ref o22), .val (.ref o23), .val (.ref o24), .val (.ref o25), .val (.int v26)] [(.int (1 : Int32))])) ?_ fun t k => (by
        refine XS.iload X113.here hx rfl (hb hby at_360) rfl ?_
        refine XS.icmpNo X113.here hx rfl (hb hby at_362) rfl (teq ((own_y1 hD (own_sw g113_0)) : (1 : Int32) = v26)).2 ?_
        refine XS.iconst X113.here hx rfl (hb hby at_365) ?_
        refine XS.goto X113.here hx rfl (pc0 := 366) (pc' := 370) rfl (hb hby at_366) (by decide) (by decide) ?_
        exact k)
      exact own_retNW X113 hx hS0 (own_hk e113 (Nat.le_trans (Nat.le_trans hk0 K101.1) K113.1)) (t := .boolean) (w := (1 : Int32)) hret (by decide) rfl hlk (hb hby at_370) (by rw [e113]; exact (⟨rfl, N113, KK113⟩)) (by decide) (by decide)
    · skip
      subst hv113
      obtain ⟨h113, e113⟩ : ∃ z, T113.heap = z := ⟨_, rfl⟩
      rw [e113] at K113
      have Xo113 : Old Z n0 h113 := Xo101.keep K113 all0
      have KK113 : Keep h0 h113 [] := KK101.trans K113 all0
      have N113 := Fr.app N101 N113q
      refine own_to (V := T113.setTop (mkF m 360 #[.val (.int qw), .val (.int qt), .val (.int qv), .val (.int qu), .val (.int qf), .val (.int v5), .val (.int v6), .val (.int v7), .val (.int v8), .val (.int v9), .val (.int v10), .val (.int v11), .val (.int v12), .val (.int v13), .val (.int v14), .val (.int v15), .val (.int v16), .val (.int v17), .val (.int v18), .val (.int v19), .val (.ref o20), .val (.ref o21), .val (.ref o22), .val (.ref o23), .val (.ref o24), .val (.ref o25), .val (.int v26)] [(.int (0 : Int32))])) ?_ (fun t k => st113.trans k)
      refine own_to (V := T113.setTop (mkF m 370 #[.val (.int qw), .val (.int qt), .val (.int qv), .val (.int qu), .val (.int qf), .val (.int v5), .val (.int v6), .val (.int v7), .val (.int v8), .val (.int v9), .val (.int v10), .val (.int v11), .val (.int v12), .val (.int v13), .val (.int v14), .val (.int v15), .val (.int v16), .val (.int v17), .val (.int v18), .val (.int v19), .val (.ref o20), .val (.ref o21), .val (.ref o22), .val (.ref o23), .val (.ref o24), .val (.ref o25), .val (.int v26)] [(.int (1 : Int32))])) ?_ fun t k => (by
        refine XS.iload X113.here hx rfl (hb hby at_360) rfl ?_
        refine XS.icmpNo X113.here hx rfl (hb hby at_362) rfl (teq ((own_y0 hD (fun q => g113_0 (own_sw q))) : (0 : Int32) = v26)).2 ?_
        refine XS.iconst X113.here hx rfl (hb hby at_365) ?_
        refine XS.goto X113.here hx rfl (pc0 := 366) (pc' := 370) rfl (hb hby at_366) (by decide) (by decide) ?_
        exact k)
      exact own_retNW X113 hx hS0 (own_hk e113 (Nat.le_trans (Nat.le_trans hk0 K101.1) K113.1)) (t := .boolean) (w := (1 : Int32)) hret (by decide) rfl hlk (hb hby at_370) (by rw [e113]; exact (⟨rfl, N113, KK113⟩)) (by decide) (by decide)
set_option maxRecDepth 65536 in
set_option maxHeartbeats 40000000 in
theorem own_sglaw1 (l : Launch) (Z : State) (a0 : Array Value) (hw : ∀ d ∈ tables_1, d.before a0 Z = true) (hst : own_St Z) (qw : Int32) (qt : Int32) (qv : Int32) (qu : Int32) (qf : Int32) (h0 : Heap) (n0 : Nat) (v5 : Int32) (v6 : Int32) (v7 : Int32) (v8 : Int32) (v9 : Int32) (v10 : Int32) (v11 : Int32) (v12 : Int32) (v13 : Int32) (v14 : Int32) (v15 : Int32) (v16 : Int32) (v17 : Int32) (v18 : Int32) (v19 : Int32)
    {p : Program} {e : Env} {s : State} {m : MethodId} {args : Array Value} {below : List Frame} {meth : Method} {c : Code} (hx : p.tables.exec = Jvm.exec) (hby : c.code = code) (hret : meth.sig.returnType = ret) (hlk : meth.locks = false) (hml : c.maxLocals = 27) (hnm : meth.name = "law") {vm0 : Vm} {k0 : Nat} (hS0 : s.Since vm0 k0) (hZ : Z.Warmed39 (s.setVm vm0).vm) (hown : (s.setVm vm0).vm.findClass "com/example/eager_query/eagerquery/model/TokenEqualsPinLaw" = some m.cls)
    {T0 : State} {locs : List Loc} {h : Heap} (X0 : Stand p l e room_1 (s.setVm vm0) m args below meth c T0 locs 0 0) (e0 : T0.heap = h) (hk0 : k0 ≤ h.size) (N0 : Fr n0 locs) (Xo0 : Old Z n0 h) (KK0 : Keep h0 h []) (r12 : ¬ v12 < 0 ∧ ¬ (255 : Int32) < v12) (r13 : ¬ v13 < 0 ∧ ¬ (255 : Int32) < v13) (r14 : ¬ v14 < 0 ∧ ¬ (255 : Int32) < v14) (r15 : ¬ v15 < 0 ∧ ¬ (255 : Int32) < v15) (r16 : ¬ v16 < 0 ∧ ¬ (255 : Int32) < v16) (r17 : ¬ v17 < 0 ∧ ¬ (255 : Int32) < v17) (r18 : ¬ v18 < 0 ∧ ¬ (255 : Int32) < v18) (r19 : ¬ v19 < 0 ∧ ¬ (255 : Int32) < v19) (i5 : own_in2 v5) (i6 : own_in2 v6) (i7 : own_in2 v7) (i8 : own_in2 v8) :
    own_Go p e below (own_PostW s (own_Qlaw Z qw qt qv qu qf h0 n0) room_1.cells room_1.slots) (T0.setTop (mkF m 159 #[.val (.int qw), .val (.int qt), .val (.int qv), .val (.int qu), .val (.int qf), .val (.int v5), .val (.int v6), .val (.int v7), .val (.int v8), .val (.int v9), .val (.int v10), .val (.int v11), .val (.int v12), .val (.int v13), .val (.int v14), .val (.int v15), .val (.int v16), .val (.int v17), .val (.int v18), .val (.int v19), .unset, .unset, .unset, .unset, .unset, .unset, .unset] [])) := by
  obtain ⟨⟨G1, O2, P5⟩, ⟨G3, O4, rG3⟩, ⟨iC, iL, iO1, iO2, iA, iE⟩, -⟩ := id hst
  refine own_to (V := T0.setTop (mkF m 165 #[.val (.int qw), .val (.int qt), .val (.int qv), .val (.int qu), .val (.int qf), .val (.int v5), .val (.int v6), .val (.int v7), .val (.int v8), .val (.int v9), .val (.int v10), .val (.int v11), .val (.int v12), .val (.int v13), .val (.int v14), .val (.int v15), .val (.int v16), .val (.int v17), .val (.int v18), .val (.int v19), .unset, .unset, .unset, .unset, .unset, .unset, .unset] [(.int v13), (.int v12), (.int v5)])) ?_ fun t k => (by
    refine XS.iload X0.here hx rfl (hb hby at_159) rfl ?_
    refine XS.iload X0.here hx rfl (hb hby at_161) rfl ?_
    refine XS.iload X0.here hx rfl (hb hby at_163) rfl ?_
    exact k)
  obtain ⟨_, _, ⟨T101, L101, k101, n101⟩, -, X101, ⟨Lc101, hQ101, l101, y101, z101⟩, st101⟩ := Jvm.LawKit.callS X0 hx (y := (⟨"com/example/eager_query/eagerquery/model/TokenEqualsPinLaw", "make", "(ICC)Ljava/lang/String;"⟩ : MethodName)) hown (mvT hZ (hw _ (List.mem_of_getElem? (i := 0) rfl))) (mvT hZ (hw _ (List.mem_of_getElem? (i := 1) rfl))) (mvT hZ (hw _ (List.mem_of_getElem? (i := 2) rfl))) (mvT hZ (hw _ (List.mem_of_getElem? (i := 3) rfl))) (by decide) (backOf (W := 0) (own_rmmake l Z a0 hw hst [] v5 v12 v13 h n0 Xo0 r12 r13) hZ (hw _ (List.mem_of_getElem? (i := 3) rfl)) (hw _ (List.mem_of_getElem? (i := 2) rfl)) (by decide) (by decide)) (g := (mkF m 165 #[.val (.int qw), .val (.int qt), .val (.int qv), .val (.int qu), .val (.int qf), .val (.int v5), .val (.int v6), .val (.int v7), .val (.int v8), .val (.int v9), .val (.int v10), .val (.int v11), .val (.int v12), .val (.int v13), .val (.int v14), .val (.int v15), .val (.int v16), .val (.int v17), .val (.int v18), .val (.int v19), .unset, .unset, .unset, .unset, .unset, .unset, .unset] [(.int v13), (.int v12), (.int v5)])) rfl (by rw [hml]; rfl) (argsL := [(.int v5), (.int v12), (.int v13)]) (rest := []) (lenOf own_pd6 rfl) rfl (by show 2 * 0 + _ ≤ _; exact Nat.le_of_eq rfl) (hb hby at_165) (fun _ _ => ⟨rfl, e0, (by decide : 0 + 3 ≤ _), (by decide : 0 + 8 ≤ _)⟩)
  dsimp only [Pt.U, Pt.locs, Pt.cells, Pt.slots] at X101 l101 y101 z101 st101 hQ101
  subst l101 y101 z101
  obtain ⟨oa101, ou101, hv101, N101q, K101, g101_0, g101_1, g101_2, g101_3⟩ := hQ101
  subst hv101
  obtain ⟨h101, e101⟩ : ∃ z, T101.heap = z := ⟨_, rfl⟩
  rw [e101] at K101 g101_3
  have Xo101 : Old Z n0 h101 := Xo0.keep K101 all0
  have KK101 : Keep h0 h101 [] := KK0.trans K101 all0
  have N101 := Fr.app N0 N101q
  have ge_oa101 : n0 ≤ oa101 := Nat.le_trans (own_ole Xo0) g101_0
  have sz_oa101 : h0.size ≤ oa101 := Nat.le_trans KK0.1 g101_0
  have ge_ou101 : n0 ≤ ou101 := Nat.le_trans (own_ole Xo0) g101_1
  have sz_ou101 : h0.size ≤ ou101 := Nat.le_trans KK0.1 g101_1
  refine own_to (V := T101.setTop (mkF m 168 #[.val (.int qw), .val (.int qt), .val (.int qv), .val (.int qu), .val (.int qf), .val (.int v5), .val (.int v6), .val (.int v7), .val (.int v8), .val (.int v9), .val (.int v10), .val (.int v11), .val (.int v12), .val (.int v13), .val (.int v14), .val (.int v15), .val (.int v16), .val (.int v17), .val (.int v18), .val (.int v19), .unset, .unset, .unset, .unset, .unset, .unset, .unset] [(.ref oa101)])) ?_ st101
  refine own_to (V := T101.setTop (mkF m 176 #[.val (.int qw), .val (.int qt), .val (.int qv), .val (.int qu), .val (.int qf), .val (.int v5), .val (.int v6), .val (.int v7), .val (.int v8), .val (.int v9), .val (.int v10), .val (.int v11), .val (.int v12), .val (.int v13), .val (.int v14), .val (.int v15), .val (.int v16), .val (.int v17), .val (.int v18), .val (.int v19), .val (.ref oa101), .unset, .unset, .unset, .unset, .unset, .unset] [(.int v15), (.int v14), (.int v6)])) ?_ fun t k => (by
    refine XS.astore X101.here hx rfl (hb hby at_168) rfl rfl (l' := #[.val (.int qw), .val (.int qt), .val (.int qv), .val (.int qu), .val (.int qf), .val (.int v5), .val (.int v6), .val (.int v7), .val (.int v8), .val (.int v9), .val (.int v10), .val (.int v11), .val (.int v12), .val (.int v13), .val (.int v14), .val (.int v15), .val (.int v16), .val (.int v17), .val (.int v18), .val (.int v19), .val (.ref oa101), .unset, .unset, .unset, .unset, .unset, .unset]) rfl ?_
    refine XS.iload X101.here hx rfl (hb hby at_170) rfl ?_
    refine XS.iload X101.here hx rfl (hb hby at_172) rfl ?_
    refine XS.iload X101.here hx rfl (hb hby at_174) rfl ?_
    exact k)
  obtain ⟨_, _, ⟨T102, L102, k102, n102⟩, -, X102, ⟨Lc102, hQ102, l102, y102, z102⟩, st102⟩ := Jvm.LawKit.callS X101 hx (y := (⟨"com/example/eager_query/eagerquery/model/TokenEqualsPinLaw", "make", "(ICC)Ljava/lang/String;"⟩ : MethodName)) hown (mvT hZ (hw _ (List.mem_of_getElem? (i := 0) rfl))) (mvT hZ (hw _ (List.mem_of_getElem? (i := 1) rfl))) (mvT hZ (hw _ (List.mem_of_getElem? (i := 2) rfl))) (mvT hZ (hw _ (List.mem_of_getElem? (i := 3) rfl))) (by decide) (backOf (W := 0) (own_rmmake l Z a0 hw hst [] v6 v14 v15 h101 n0 Xo101 r14 r15) hZ (hw _ (List.mem_of_getElem? (i := 3) rfl)) (hw _ (List.mem_of_getElem? (i := 2) rfl)) (by decide) (by decide)) (g := (mkF m 176 #[.val (.int qw), .val (.int qt), .val (.int qv), .val (.int qu), .val (.int qf), .val (.int v5), .val (.int v6), .val (.int v7), .val (.int v8), .val (.int v9), .val (.int v10), .val (.int v11), .val (.int v12), .val (.int v13), .val (.int v14), .val (.int v15), .val (.int v16), .val (.int v17), .val (.int v18), .val (.int v19), .val (.ref oa101), .unset, .unset, .unset, .unset, .unset, .unset] [(.int v15), (.int v14), (.int v6)])) rfl (by rw [hml]; rfl) (argsL := [(.int v6), (.int v14), (.int v15)]) (rest := []) (lenOf own_pd6 rfl) rfl (by show 2 * 0 + _ ≤ _; exact Nat.le_of_eq rfl) (hb hby at_176) (fun _ _ => ⟨rfl, e101, (by decide : 3 + 3 ≤ _), (by decide : 8 + 8 ≤ _)⟩)
  dsimp only [Pt.U, Pt.locs, Pt.cells, Pt.slots] at X102 l102 y102 z102 st102 hQ102
  subst l102 y102 z102
  obtain ⟨oa102, ou102, hv102, N102q, K102, g102_0, g102_1, g102_2, g102_3⟩ := hQ102
  subst hv102
  obtain ⟨h102, e102⟩ : ∃ z, T102.heap = z := ⟨_, rfl⟩
  rw [e102] at K102 g102_3
  have Xo102 : Old Z n0 h102 := Xo101.keep K102 all0
  have KK102 : Keep h0 h102 [] := KK101.trans K102 all0
  have N102 := Fr.app N101 N102q
  have ge_oa102 : n0 ≤ oa102 := Nat.le_trans (own_ole Xo101) g102_0
  have sz_oa102 : h0.size ≤ oa102 := Nat.le_trans KK101.1 g102_0
  have ge_ou102 : n0 ≤ ou102 := Nat.le_trans (own_ole Xo101) g102_1
  have sz_ou102 : h0.size ≤ ou102 := Nat.le_trans KK101.1 g102_1
  refine own_to (V := T102.setTop (mkF m 179 #[.val (.int qw), .val (.int qt), .val (.int qv), .val (.int qu), .val (.int qf), .val (.int v5), .val (.int v6), .val (.int v7), .val (.int v8), .val (.int v9), .val (.int v10), .val (.int v11), .val (.int v12), .val (.int v13), .val (.int v14), .val (.int v15), .val (.int v16), .val (.int v17), .val (.int v18), .val (.int v19), .val (.ref oa101), .unset, .unset, .unset, .unset, .unset, .unset] [(.ref oa102)])) ?_ st102
  refine own_to (V := T102.setTop (mkF m 187 #[.val (.int qw), .val (.int qt), .val (.int qv), .val (.int qu), .val (.int qf), .val (.int v5), .val (.int v6), .val (.int v7), .val (.int v8), .val (.int v9), .val (.int v10), .val (.int v11), .val (.int v12), .val (.int v13), .val (.int v14), .val (.int v15), .val (.int v16), .val (.int v17), .val (.int v18), .val (.int v19), .val (.ref oa101), .val (.ref oa102), .unset, .unset, .unset, .unset, .unset] [(.int v17), (.int v16), (.int v7)])) ?_ fun t k => (by
    refine XS.astore X102.here hx rfl (hb hby at_179) rfl rfl (l' := #[.val (.int qw), .val (.int qt), .val (.int qv), .val (.int qu), .val (.int qf), .val (.int v5), .val (.int v6), .val (.int v7), .val (.int v8), .val (.int v9), .val (.int v10), .val (.int v11), .val (.int v12), .val (.int v13), .val (.int v14), .val (.int v15), .val (.int v16), .val (.int v17), .val (.int v18), .val (.int v19), .val (.ref oa101), .val (.ref oa102), .unset, .unset, .unset, .unset, .unset]) rfl ?_
    refine XS.iload X102.here hx rfl (hb hby at_181) rfl ?_
    refine XS.iload X102.here hx rfl (hb hby at_183) rfl ?_
    refine XS.iload X102.here hx rfl (hb hby at_185) rfl ?_
    exact k)
  obtain ⟨_, _, ⟨T103, L103, k103, n103⟩, -, X103, ⟨Lc103, hQ103, l103, y103, z103⟩, st103⟩ := Jvm.LawKit.callS X102 hx (y := (⟨"com/example/eager_query/eagerquery/model/TokenEqualsPinLaw", "make", "(ICC)Ljava/lang/String;"⟩ : MethodName)) hown (mvT hZ (hw _ (List.mem_of_getElem? (i := 0) rfl))) (mvT hZ (hw _ (List.mem_of_getElem? (i := 1) rfl))) (mvT hZ (hw _ (List.mem_of_getElem? (i := 2) rfl))) (mvT hZ (hw _ (List.mem_of_getElem? (i := 3) rfl))) (by decide) (backOf (W := 0) (own_rmmake l Z a0 hw hst [] v7 v16 v17 h102 n0 Xo102 r16 r17) hZ (hw _ (List.mem_of_getElem? (i := 3) rfl)) (hw _ (List.mem_of_getElem? (i := 2) rfl)) (by decide) (by decide)) (g := (mkF m 187 #[.val (.int qw), .val (.int qt), .val (.int qv), .val (.int qu), .val (.int qf), .val (.int v5), .val (.int v6), .val (.int v7), .val (.int v8), .val (.int v9), .val (.int v10), .val (.int v11), .val (.int v12), .val (.int v13), .val (.int v14), .val (.int v15), .val (.int v16), .val (.int v17), .val (.int v18), .val (.int v19), .val (.ref oa101), .val (.ref oa102), .unset, .unset, .unset, .unset, .unset] [(.int v17), (.int v16), (.int v7)])) rfl (by rw [hml]; rfl) (argsL := [(.int v7), (.int v16), (.int v17)]) (rest := []) (lenOf own_pd6 rfl) rfl (by show 2 * 0 + _ ≤ _; exact Nat.le_of_eq rfl) (hb hby at_187) (fun _ _ => ⟨rfl, e102, (by decide : 6 + 3 ≤ _), (by decide : 16 + 8 ≤ _)⟩)
  dsimp only [Pt.U, Pt.locs, Pt.cells, Pt.slots] at X103 l103 y103 z103 st103 hQ103
  subst l103 y103 z103
  obtain ⟨oa103, ou103, hv103, N103q, K103, g103_0, g103_1, g103_2, g103_3⟩ := hQ103
  subst hv103
  obtain ⟨h103, e103⟩ : ∃ z, T103.heap = z := ⟨_, rfl⟩
  rw [e103] at K103 g103_3
  have Xo103 : Old Z n0 h103 := Xo102.keep K103 all0
  have KK103 : Keep h0 h103 [] := KK102.trans K103 all0
  have N103 := Fr.app N102 N103q
  have ge_oa103 : n0 ≤ oa103 := Nat.le_trans (own_ole Xo102) g103_0
  have sz_oa103 : h0.size ≤ oa103 := Nat.le_trans KK102.1 g103_0
  have ge_ou103 : n0 ≤ ou103 := Nat.le_trans (own_ole Xo102) g103_1
  have sz_ou103 : h0.size ≤ ou103 := Nat.le_trans KK102.1 g103_1
  refine own_to (V := T103.setTop (mkF m 190 #[.val (.int qw), .val (.int qt), .val (.int qv), .val (.int qu), .val (.int qf), .val (.int v5), .val (.int v6), .val (.int v7), .val (.int v8), .val (.int v9), .val (.int v10), .val (.int v11), .val (.int v12), .val (.int v13), .val (.int v14), .val (.int v15), .val (.int v16), .val (.int v17), .val (.int v18), .val (.int v19), .val (.ref oa101), .val (.ref oa102), .unset, .unset, .unset, .unset, .unset] [(.ref oa103)])) ?_ st103
  refine own_to (V := T103.setTop (mkF m 198 #[.val (.int qw), .val (.int qt), .val (.int qv), .val (.int qu), .val (.int qf), .val (.int v5), .val (.int v6), .val (.int v7), .val (.int v8), .val (.int v9), .val (.int v10), .val (.int v11), .val (.int v12), .val (.int v13), .val (.int v14), .val (.int v15), .val (.int v16), .val (.int v17), .val (.int v18), .val (.int v19), .val (.ref oa101), .val (.ref oa102), .val (.ref oa103), .unset, .unset, .unset, .unset] [(.int v19), (.int v18), (.int v8)])) ?_ fun t k => (by
    refine XS.astore X103.here hx rfl (hb hby at_190) rfl rfl (l' := #[.val (.int qw), .val (.int qt), .val (.int qv), .val (.int qu), .val (.int qf), .val (.int v5), .val (.int v6), .val (.int v7), .val (.int v8), .val (.int v9), .val (.int v10), .val (.int v11), .val (.int v12), .val (.int v13), .val (.int v14), .val (.int v15), .val (.int v16), .val (.int v17), .val (.int v18), .val (.int v19), .val (.ref oa101), .val (.ref oa102), .val (.ref oa103), .unset, .unset, .unset, .unset]) rfl ?_
    refine XS.iload X103.here hx rfl (hb hby at_192) rfl ?_
    refine XS.iload X103.here hx rfl (hb hby at_194) rfl ?_
    refine XS.iload X103.here hx rfl (hb hby at_196) rfl ?_
    exact k)
  obtain ⟨_, _, ⟨T104, L104, k104, n104⟩, -, X104, ⟨Lc104, hQ104, l104, y104, z104⟩, st104⟩ := Jvm.LawKit.callS X103 hx (y := (⟨"com/example/eager_query/eagerquery/model/TokenEqualsPinLaw", "make", "(ICC)Ljava/lang/String;"⟩ : MethodName)) hown (mvT hZ (hw _ (List.mem_of_getElem? (i := 0) rfl))) (mvT hZ (hw _ (List.mem_of_getElem? (i := 1) rfl))) (mvT hZ (hw _ (List.mem_of_getElem? (i := 2) rfl))) (mvT hZ (hw _ (List.mem_of_getElem? (i := 3) rfl))) (by decide) (backOf (W := 0) (own_rmmake l Z a0 hw hst [] v8 v18 v19 h103 n0 Xo103 r18 r19) hZ (hw _ (List.mem_of_getElem? (i := 3) rfl)) (hw _ (List.mem_of_getElem? (i := 2) rfl)) (by decide) (by decide)) (g := (mkF m 198 #[.val (.int qw), .val (.int qt), .val (.int qv), .val (.int qu), .val (.int qf), .val (.int v5), .val (.int v6), .val (.int v7), .val (.int v8), .val (.int v9), .val (.int v10), .val (.int v11), .val (.int v12), .val (.int v13), .val (.int v14), .val (.int v15), .val (.int v16), .val (.int v17), .val (.int v18), .val (.int v19), .val (.ref oa101), .val (.ref oa102), .val (.ref oa103), .unset, .unset, .unset, .unset] [(.int v19), (.int v18), (.int v8)])) rfl (by rw [hml]; rfl) (argsL := [(.int v8), (.int v18), (.int v19)]) (rest := []) (lenOf own_pd6 rfl) rfl (by show 2 * 0 + _ ≤ _; exact Nat.le_of_eq rfl) (hb hby at_198) (fun _ _ => ⟨rfl, e103, (by decide : 9 + 3 ≤ _), (by decide : 24 + 8 ≤ _)⟩)
  dsimp only [Pt.U, Pt.locs, Pt.cells, Pt.slots] at X104 l104 y104 z104 st104 hQ104
  subst l104 y104 z104
  obtain ⟨oa104, ou104, hv104, N104q, K104, g104_0, g104_1, g104_2, g104_3⟩ := hQ104
  subst hv104
  obtain ⟨h104, e104⟩ : ∃ z, T104.heap = z := ⟨_, rfl⟩
  rw [e104] at K104 g104_3
  have Xo104 : Old Z n0 h104 := Xo103.keep K104 all0
  have KK104 : Keep h0 h104 [] := KK103.trans K104 all0
  have N104 := Fr.app N103 N104q
  have ge_oa104 : n0 ≤ oa104 := Nat.le_trans (own_ole Xo103) g104_0
  have sz_oa104 : h0.size ≤ oa104 := Nat.le_trans KK103.1 g104_0
  have ge_ou104 : n0 ≤ ou104 := Nat.le_trans (own_ole Xo103) g104_1
  have sz_ou104 : h0.size ≤ ou104 := Nat.le_trans KK103.1 g104_1
  refine own_to (V := T104.setTop (mkF m 201 #[.val (.int qw), .val (.int qt), .val (.int qv), .val (.int qu), .val (.int qf), .val (.int v5), .val (.int v6), .val (.int v7), .val (.int v8), .val (.int v9), .val (.int v10), .val (.int v11), .val (.int v12), .val (.int v13), .val (.int v14), .val (.int v15), .val (.int v16), .val (.int v17), .val (.int v18), .val (.int v19), .val (.ref oa101), .val (.ref oa102), .val (.ref oa103), .unset, .unset, .unset, .unset] [(.ref oa104)])) ?_ st104
  refine own_to (V := T104.setTop (mkF m 203 #[.val (.int qw), .val (.int qt), .val (.int qv), .val (.int qu), .val (.int qf), .val (.int v5), .val (.int v6), .val (.int v7), .val (.int v8), .val (.int v9), .val (.int v10), .val (.int v11), .val (.int v12), .val (.int v13), .val (.int v14), .val (.int v15), .val (.int v16), .val (.int v17), .val (.int v18), .val (.int v19), .val (.ref oa101), .val (.ref oa102), .val (.ref oa103), .val (.ref oa104), .unset, .unset, .unset] [])) ?_ fun t k => (by
    refine XS.astore X104.here hx rfl (hb hby at_201) rfl rfl (l' := #[.val (.int qw), .val (.int qt), .val (.int qv), .val (.int qu), .val (.int qf), .val (.int v5), .val (.int v6), .val (.int v7), .val (.int v8), .val (.int v9), .val (.int v10), .val (.int v11), .val (.int v12), .val (.int v13), .val (.int v14), .val (.int v15), .val (.int v16), .val (.int v17), .val (.int v18), .val (.int v19), .val (.ref oa101), .val (.ref oa102), .val (.ref oa103), .val (.ref oa104), .unset, .unset, .unset]) rfl ?_
    exact k)
  obtain ⟨T105, h105, X105, e105, E105, A105, D105, U105, st105⟩ := newO X104 hx hZ hown (hw _ (List.mem_of_getElem? (i := 34) rfl)) (hw _ (List.mem_of_getElem? (i := 35) rfl)) (hw _ (List.mem_of_getElem? (i := 36) rfl)) e104 (g := (mkF m 203 #[.val (.int qw), .val (.int qt), .val (.int qv), .val (.int qu), .val (.int qf), .val (.int v5), .val (.int v6), .val (.int v7), .val (.int v8), .val (.int v9), .val (.int v10), .val (.int v11), .val (.int v12), .val (.int v13), .val (.int v14), .val (.int v15), .val (.int v16), .val (.int v17), .val (.int v18), .val (.int v19), .val (.ref oa101), .val (.ref oa102), .val (.ref oa103), .val (.ref oa104), .unset, .unset, .unset] [])) rfl (hb hby at_203) (by decide) (by decide)
  obtain ⟨b105, g105⟩ : ∃ z, z = h104.size := ⟨_, rfl⟩
  rw [← g105] at A105 D105 U105 st105
  have Xo105 : Old Z n0 h105 := Xo104.ext E105
  have KK105 : Keep h0 h105 [] := KK104.ext E105
  have ge_b105 : n0 ≤ b105 := Nat.le_trans (own_ole Xo104) (Nat.le_of_eq g105.symm)
  have sz_b105 : h0.size ≤ b105 := Nat.le_trans KK104.1 (Nat.le_of_eq g105.symm)
  have Fi105_55 : Fld Z h105 b105 "com/example/eager_query/eagerquery/model/Token" "word" "Ljava/lang/String;" .null := D105 (Or.inr (hw _ (List.mem_of_getElem? (i := 55) rfl))) (ty := (.object "java/lang/String")) (by decide)
  have Fi105_57 : Fld Z h105 b105 "com/example/eager_query/eagerquery/model/Token" "tag" "Ljava/lang/String;" .null := D105 (Or.inr (hw _ (List.mem_of_getElem? (i := 57) rfl))) (ty := (.object "java/lang/String")) (by decide)
  refine own_to (V := T105.setTop (mkF m 206 #[.val (.int qw), .val (.int qt), .val (.int qv), .val (.int qu), .val (.int qf), .val (.int v5), .val (.int v6), .val (.int v7), .val (.int v8), .val (.int v9), .val (.int v10), .val (.int v11), .val (.int v12), .val (.int v13), .val (.int v14), .val (.int v15), .val (.int v16), .val (.int v17), .val (.int v18), .val (.int v19), .val (.ref oa101), .val (.ref oa102), .val (.ref oa103), .val (.ref oa104), .unset, .unset, .unset] [(.ref b105)])) ?_ st105
  refine own_to (V := T105.setTop (mkF m 211 #[.val (.int qw), .val (.int qt), .val (.int qv), .val (.int qu), .val (.int qf), .val (.int v5), .val (.int v6), .val (.int v7), .val (.int v8), .val (.int v9), .val (.int v10), .val (.int v11), .val (.int v12), .val (.int v13), .val (.int v14), .val (.int v15), .val (.int v16), .val (.int v17), .val (.int v18), .val (.int v19), .val (.ref oa101), .val (.ref oa102), .val (.ref oa103), .val (.ref oa104), .unset, .unset, .unset] [(.ref oa102), (.ref oa101), (.ref b105), (.ref b105)])) ?_ fun t k => (by
    refine XS.dup X105.here hx rfl (hb hby at_206) rfl rfl ?_
    refine XS.aload X105.here hx rfl (hb hby at_207) rfl rfl ?_
    refine XS.aload X105.here hx rfl (hb hby at_209) rfl rfl ?_
    exact k)
  have F107 : own_Str Z h105 oa101 ou101 (own_tok v5 v12 v13) := ((((g101_3.keep K102 List.not_mem_nil List.not_mem_nil).keep K103 List.not_mem_nil List.not_mem_nil).keep K104 List.not_mem_nil List.not_mem_nil).ext E105)
  have F108 : own_Str Z h105 oa102 ou102 (own_tok v6 v14 v15) := (((g102_3.keep K103 List.not_mem_nil List.not_mem_nil).keep K104 List.not_mem_nil List.not_mem_nil).ext E105)
  obtain ⟨_, _, ⟨T106, L106, k106, n106⟩, -, X106', hS106', hg106, ⟨Lc106, hQ106, l106, y106, z106⟩, st106⟩ := X105.specialBackS hx (y := (⟨"com/example/eager_query/eagerquery/model/Token", "<init>", "(Ljava/lang/String;Ljava/lang/String;)V"⟩ : MethodName)) rfl hown (mvT hZ (hw _ (List.mem_of_getElem? (i := 37) rfl))) (mvT hZ (hw _ (List.mem_of_getElem? (i := 38) rfl))) (mvT hZ (hw _ (List.mem_of_getElem? (i := 39) rfl))) (by decide) (backOfS (W := 1) (own_rmini l Z a0 hw hst [] b105 oa101 oa102 ou101 ou102 (own_tok v5 v12 v13) (own_tok v6 v14 v15) h105 n0 Xo105 A105 Fi105_55 Fi105_57 ge_b105 F107 F108 own_tok_ne own_tok_ne) hZ (hw _ (List.mem_of_getElem? (i := 39) rfl)) (hw _ (List.mem_of_getElem? (i := 36) rfl)) (by decide) (by decide)) (g := (mkF m 211 #[.val (.int qw), .val (.int qt), .val (.int qv), .val (.int qu), .val (.int qf), .val (.int v5), .val (.int v6), .val (.int v7), .val (.int v8), .val (.int v9), .val (.int v10), .val (.int v11), .val (.int v12), .val (.int v13), .val (.int v14), .val (.int v15), .val (.int v16), .val (.int v17), .val (.int v18), .val (.int v19), .val (.ref oa101), .val (.ref oa102), .val (.ref oa103), .val (.ref oa104), .unset, .unset, .unset] [(.ref oa102), (.ref oa101), (.ref b105), (.ref b105)])) rfl (by rw [hml]; rfl) (Steps.refl _) (a := b105) (argsL := [(.ref oa101), (.ref oa102)]) (rest := [(.ref b105)]) (lenOf own_pd7 rfl) rfl (by show 2 * 0 + _ ≤ _; exact Nat.le_of_eq rfl) (hb hby at_211) (fun _ _ => ⟨rfl, e105, (by decide : 13 + 4 ≤ _), (by decide : 34 + 36 ≤ _)⟩)
  dsimp only [Pt.U, Pt.locs, Pt.cells, Pt.slots] at X106' hS106' hg106 l106 y106 z106 st106 hQ106
  subst l106 y106 z106
  obtain ⟨X106, hS106, hZ106, hown106⟩ := rebS hS0 (own_hk e105 (Nat.le_trans (Nat.le_trans (Nat.le_trans (Nat.le_trans (Nat.le_trans hk0 K101.1) K102.1) K103.1) K104.1) E105.1)) X106' hS106' hg106 hZ hown
  obtain ⟨hv106, N106q, K106, g106_0, g106_1⟩ := hQ106
  subst hv106
  obtain ⟨h106, e106⟩ : ∃ z, T106.heap = z := ⟨_, rfl⟩
  rw [e106] at K106 g106_0 g106_1
  have Xo106 : Old Z n0 h106 := Xo105.keep K106 (allS ge_b105 all0)
  have KK106 : Keep h0 h106 [] := KK105.trans K106 (allS (Or.inr sz_b105) all0)
  have hk106 : T106.heap.size ≤ h106.size := by rw [e106]; exact Nat.le_refl _
  have N106 := Fr.app N104 N106q
  refine own_to (V := T106.setTop (mkF m 214 #[.val (.int qw), .val (.int qt), .val (.int qv), .val (.int qu), .val (.int qf), .val (.int v5), .val (.int v6), .val (.int v7), .val (.int v8), .val (.int v9), .val (.int v10), .val (.int v11), .val (.int v12), .val (.int v13), .val (.int v14), .val (.int v15), .val (.int v16), .val (.int v17), .val (.int v18), .val (.int v19), .val (.ref oa101), .val (.ref oa102), .val (.ref oa103), .val (.ref oa104), .unset, .unset, .unset] [(.ref b105)])) ?_ (fun t k => st106.trans k)
  refine own_to (V := T106.setTop (mkF m 216 #[.val (.int qw), .val (.int qt), .val (.int qv), .val (.int qu), .val (.int qf), .val (.int v5), .val (.int v6), .val (.int v7), .val (.int v8), .val (.int v9), .val (.int v10), .val (.int v11), .val (.int v12), .val (.int v13), .val (.int v14), .val (.int v15), .val (.int v16), .val (.int v17), .val (.int v18), .val (.int v19), .val (.ref oa101), .val (.ref oa102), .val (.ref oa103), .val (.ref oa104), .val (.ref b105), .unset, .unset] [])) ?_ fun t k => (by
    refine XS.astore X106.here hx rfl (hb hby at_214) rfl rfl (l' := #[.val (.int qw), .val (.int qt), .val (.int qv), .val (.int qu), .val (.int qf), .val (.int v5), .val (.int v6), .val (.int v7), .val (.int v8), .val (.int v9), .val (.int v10), .val (.int v11), .val (.int v12), .val (.int v13), .val (.int v14), .val (.int v15), .val (.int v16), .val (.int v17), .val (.int v18), .val (.int v19), .val (.ref oa101), .val (.ref oa102), .val (.ref oa103), .val (.ref oa104), .val (.ref b105), .unset, .unset]) rfl ?_
    exact k)
  obtain ⟨T109, h109, X109, e109, E109, A109, D109, U109, st109⟩ := newO X106 hx hZ106 hown106 (hw _ (List.mem_of_getElem? (i := 34) rfl)) (hw _ (List.mem_of_getElem? (i := 35) rfl)) (hw _ (List.mem_of_getElem? (i := 36) rfl)) e106 (g := (mkF m 216 #[.val (.int qw), .val (.int qt), .val (.int qv), .val (.int qu), .val (.int qf), .val (.int v5), .val (.int v6), .val (.int v7), .val (.int v8), .val (.int v9), .val (.int v10), .val (.int v11), .val (.int v12), .val (.int v13), .val (.int v14), .val (.int v15), .val (.int v16), .val (.int v17), .val (.int v18), .val (.int v19), .val (.ref oa101), .val (.ref oa102), .val (.ref oa103), .val (.ref oa104), .val (.ref b105), .unset, .unset] [])) rfl (hb hby at_216) (by decide) (by decide)
  obtain ⟨b109, g109⟩ : ∃ z, z = h106.size := ⟨_, rfl⟩
  rw [← g109] at A109 D109 U109 st109
  have Xo109 : Old Z n0 h109 := Xo106.ext E109
  have KK109 : Keep h0 h109 [] := KK106.ext E109
  have ge_b109 : n0 ≤ b109 := Nat.le_trans (own_ole Xo106) (Nat.le_of_eq g109.symm)
  have sz_b109 : h0.size ≤ b109 := Nat.le_trans KK106.1 (Nat.le_of_eq g109.symm)
  have Fi109_55 : Fld Z h109 b109 "com/example/eager_query/eagerquery/model/Token" "word" "Ljava/lang/String;" .null := D109 (Or.inr (hw _ (List.mem_of_getElem? (i := 55) rfl))) (ty := (.object "java/lang/String")) (by decide)
  have Fi109_57 : Fld Z h109 b109 "com/example/eager_query/eagerquery/model/Token" "tag" "Ljava/lang/String;" .null := D109 (Or.inr (hw _ (List.mem_of_getElem? (i := 57) rfl))) (ty := (.object "java/lang/String")) (by decide)
  refine own_to (V := T109.setTop (mkF m 219 #[.val (.int qw), .val (.int qt), .val (.int qv), .val (.int qu), .val (.int qf), .val (.int v5), .val (.int v6), .val (.int v7), .val (.int v8), .val (.int v9), .val (.int v10), .val (.int v11), .val (.int v12), .val (.int v13), .val (.int v14), .val (.int v15), .val (.int v16), .val (.int v17), .val (.int v18), .val (.int v19), .val (.ref oa101), .val (.ref oa102), .val (.ref oa103), .val (.ref oa104), .val (.ref b105), .unset, .unset] [(.ref b109)])) ?_ st109
  refine own_to (V := T109.setTop (mkF m 224 #[.val (.int qw), .val (.int qt), .val (.int qv), .val (.int qu), .val (.int qf), .val (.int v5), .val (.int v6), .val (.int v7), .val (.int v8), .val (.int v9), .val (.int v10), .val (.int v11), .val (.int v12), .val (.int v13), .val (.int v14), .val (.int v15), .val (.int v16), .val (.int v17), .val (.int v18), .val (.int v19), .val (.ref oa101), .val (.ref oa102), .val (.ref oa103), .val (.ref oa104), .val (.ref b105), .unset, .unset] [(.ref oa104), (.ref oa103), (.ref b109), (.ref b109)])) ?_ fun t k => (by
    refine XS.dup X109.here hx rfl (hb hby at_219) rfl rfl ?_
    refine XS.aload X109.here hx rfl (hb hby at_220) rfl rfl ?_
    refine XS.aload X109.here hx rfl (hb hby at_222) rfl rfl ?_
    exact k)
  have F111 : own_Str Z h109 oa103 ou103 (own_tok v7 v16 v17) := ((((g103_3.keep K104 List.not_mem_nil List.not_mem_nil).ext E105).keep K106 (own_nmS (Nat.ne_of_lt (Nat.lt_of_lt_of_le (Nat.lt_of_lt_of_le g103_3.lt K104.1) (Nat.le_of_eq g105.symm))) own_nm0) (own_nmS (Nat.ne_of_lt (Nat.lt_of_lt_of_le (Nat.lt_of_lt_of_le g103_3.lt2 K104.1) (Nat.le_of_eq g105.symm))) own_nm0)).ext E109)
  have F112 : own_Str Z h109 oa104 ou104 (own_tok v8 v18 v19) := (((g104_3.ext E105).keep K106 (own_nmS (Nat.ne_of_lt (Nat.lt_of_lt_of_le g104_3.lt (Nat.le_of_eq g105.symm))) own_nm0) (own_nmS (Nat.ne_of_lt (Nat.lt_of_lt_of_le g104_3.lt2 (Nat.le_of_eq g105.symm))) own_nm0)).ext E109)
  obtain ⟨_, _, ⟨T110, L110, k110, n110⟩, -, X110', hS110', hg110, ⟨Lc110, hQ110, l110, y110, z110⟩, st110⟩ := X109.specialBackS hx (y := (⟨"com/example/eager_query/eagerquery/model/Token", "<init>", "(Ljava/lang/String;Ljava/lang/String;)V"⟩ : MethodName)) rfl hown106 (mvT hZ106 (hw _ (List.mem_of_getElem? (i := 37) rfl))) (mvT hZ106 (hw _ (List.mem_of_getElem? (i := 38) rfl))) (mvT hZ106 (hw _ (List.mem_of_getElem? (i := 39) rfl))) (by decide) (backOfS (W := 1) (own_rmini l Z a0 hw hst [] b109 oa103 oa104 ou103 ou104 (own_tok v7 v16 v17) (own_tok v8 v18 v19) h109 n0 Xo109 A109 Fi109_55 Fi109_57 ge_b109 F111 F112 own_tok_ne own_tok_ne) hZ106 (hw _ (List.mem_of_getElem? (i := 39) rfl)) (hw _ (List.mem_of_getElem? (i := 36) rfl)) (by decide) (by decide)) (g := (mkF m 224 #[.val (.int qw), .val (.int qt), .val (.int qv), .val (.int qu), .val (.int qf), .val (.int v5), .val (.int v6), .val (.int v7), .val (.int v8), .val (.int v9), .val (.int v10), .val (.int v11), .val (.int v12), .val (.int v13), .val (.int v14), .val (.int v15), .val (.int v16), .val (.int v17), .val (.int v18), .val (.int v19), .val (.ref oa101), .val (.ref oa102), .val (.ref oa103), .val (.ref oa104), .val (.ref b105), .unset, .unset] [(.ref oa104), (.ref oa103), (.ref b109), (.ref b109)])) rfl (by rw [hml]; rfl) (Steps.refl _) (a := b109) (argsL := [(.ref oa103), (.ref oa104)]) (rest := [(.ref b109)]) (lenOf own_pd7 rfl) rfl (by show 2 * 0 + _ ≤ _; exact Nat.le_of_eq rfl) (hb hby at_224) (fun _ _ => ⟨rfl, e109, (by decide : 18 + 4 ≤ _), (by decide : 72 + 36 ≤ _)⟩)
  dsimp only [Pt.U, Pt.locs, Pt.cells, Pt.slots] at X110' hS110' hg110 l110 y110 z110 st110 hQ110
  subst l110 y110 z110
  obtain ⟨X110, hS110, hZ110, hown110⟩ := rebS hS106 (own_hk e109 (Nat.le_trans hk106 E109.1)) X110' hS110' hg110 hZ106 hown106
  obtain ⟨hv110, N110q, K110, g110_0, g110_1⟩ := hQ110
  subst hv110
  obtain ⟨h110, e110⟩ : ∃ z, T110.heap = z := ⟨_, rfl⟩
  rw [e110] at K110 g110_0 g110_1
  have Xo110 : Old Z n0 h110 := Xo109.keep K110 (allS ge_b109 all0)
  have KK110 : Keep h0 h110 [] := KK109.trans K110 (allS (Or.inr sz_b109) all0)
  have hk110 : T110.heap.size ≤ h110.size := by rw [e110]; exact Nat.le_refl _
  have N110 := Fr.app N106 N110q
  refine own_to (V := T110.setTop (mkF m 227 #[.val (.int qw), .val (.int qt), .val (.int qv), .val (.int qu), .val (.int qf), .val (.int v5), .val (.int v6), .val (.int v7), .val (.int v8), .val (.int v9), .val (.int v10), .val (.int v11), .val (.int v12), .val (.int v13), .val (.int v14), .val (.int v15), .val (.int v16), .val (.int v17), .val (.int v18), .val (.int v19), .val (.ref oa101), .val (.ref oa102), .val (.ref oa103), .val (.ref oa104), .val (.ref b105), .unset, .unset] [(.ref b109)])) ?_ (fun t k => st110.trans k)
  refine own_to (V := T110.setTop (mkF m 232 #[.val (.int qw), .val (.int qt), .val (.int qv), .val (.int qu), .val (.int qf), .val (.int v5), .val (.int v6), .val (.int v7), .val (.int v8), .val (.int v9), .val (.int v10), .val (.int v11), .val (.int v12), .val (.int v13), .val (.int v14), .val (.int v15), .val (.int v16), .val (.int v17), .val (.int v18), .val (.int v19), .val (.ref oa101), .val (.ref oa102), .val (.ref oa103), .val (.ref oa104), .val (.ref b105), .val (.ref b109), .unset] [(.int (1 : Int32)), (.int v11)])) ?_ fun t k => (by
    refine XS.astore X110.here hx rfl (hb hby at_227) rfl rfl (l' := #[.val (.int qw), .val (.int qt), .val (.int qv), .val (.int qu), .val (.int qf), .val (.int v5), .val (.int v6), .val (.int v7), .val (.int v8), .val (.int v9), .val (.int v10), .val (.int v11), .val (.int v12), .val (.int v13), .val (.int v14), .val (.int v15), .val (.int v16), .val (.int v17), .val (.int v18), .val (.int v19), .val (.ref oa101), .val (.ref oa102), .val (.ref oa103), .val (.ref oa104), .val (.ref b105), .val (.ref b109), .unset]) rfl ?_
    refine XS.iload X110.here hx rfl (hb hby at_229) rfl ?_
    refine XS.iconst X110.here hx rfl (hb hby at_231) ?_
    exact k)
  by_cases hc232_113 : v11 = (1 : Int32)
  · skip
    refine own_to (V := T110.setTop (mkF m 239 #[.val (.int qw), .val (.int qt), .val (.int qv), .val (.int qu), .val (.int qf), .val (.int v5), .val (.int v6), .val (.int v7), .val (.int v8), .val (.int v9), .val (.int v10), .val (.int v11), .val (.int v12), .val (.int v13), .val (.int v14), .val (.int v15), .val (.int v16), .val (.int v17), .val (.int v18), .val (.int v19), .val (.ref oa101), .val (.ref oa102), .val (.ref oa103), .val (.ref oa104), .val (.ref b105), .val (.ref b109), .unset] [(.ref b105), (.ref b105)])) ?_ fun t k => (by
      refine XS.icmpNo X110.here hx rfl (hb hby at_232) rfl (teq (hc232_113 : v11 = (1 : Int32))).2 ?_
      refine XS.aload X110.here hx rfl (hb hby at_235) rfl rfl ?_
      refine XS.aload X110.here hx rfl (hb hby at_237) rfl rfl ?_
      exact k)
    have F115 : Exa Z h110 b105 "com/example/eager_query/eagerquery/model/Token" := (((A105.keep K106).ext E109).keep K110)
    obtain ⟨cq114, kq114, q114a, q114b, q114c⟩ := isOf hZ110 e110 F115
    obtain ⟨_, _, ⟨T114, L114, k114, n114⟩, -, X114, ⟨Lc114, hQ114, l114, y114, z114⟩, st114⟩ := X110.virtualBack hx (y := (⟨"com/example/eager_query/eagerquery/model/Token", "equals", "(Ljava/lang/Object;)Z"⟩ : MethodName)) (z := (⟨"com/example/eager_query/eagerquery/model/Token", "equals", "(Ljava/lang/Object;)Z"⟩ : MethodName)) hown110 (mvT hZ110 (hw _ (List.mem_of_getElem? (i := 61) rfl))) (mvT hZ110 (hw _ (List.mem_of_getElem? (i := 62) rfl))) (notFace_of_selects (args := #[]) (mvT hZ110 (hw _ (List.mem_of_getElem? (i := 64) rfl)))) (mvT hZ110 (hw _ (List.mem_of_getElem? (i := 64) rfl))) (mvT hZ110 (hw _ (List.mem_of_getElem? (i := 63) rfl))) (by decide) (backOf (W := 0) (own_rmeqI l Z a0 hw hst [] b105 h110 n0 Xo110 F115) hZ110 (hw _ (List.mem_of_getElem? (i := 65) rfl)) (hw _ (List.mem_of_getElem? (i := 36) rfl)) (by decide) (by decide)) q114a q114c (g := (mkF m 239 #[.val (.int qw), .val (.int qt), .val (.int qv), .val (.int qu), .val (.int qf), .val (.int v5), .val (.int v6), .val (.int v7), .val (.int v8), .val (.int v9), .val (.int v10), .val (.int v11), .val (.int v12), .val (.int v13), .val (.int v14), .val (.int v15), .val (.int v16), .val (.int v17), .val (.int v18), .val (.int v19), .val (.ref oa101), .val (.ref oa102), .val (.ref oa103), .val (.ref oa104), .val (.ref b105), .val (.ref b109), .unset] [(.ref b105), (.ref b105)])) rfl (by rw [hml]; rfl) (Steps.refl _) (argsL := [(.ref b105)]) (rest := []) (lenOf own_pd5 rfl) rfl (by show 2 * 0 + _ ≤ _; exact Nat.le_of_eq rfl) (hb hby at_239) (fun _ _ => ⟨rfl, e110, (by decide : 22 + 0 ≤ _), (by decide : 108 + 0 ≤ _)⟩)
    dsimp only [Pt.U, Pt.locs, Pt.cells, Pt.slots] at X114 l114 y114 z114 st114 hQ114
    subst l114 y114 z114
    obtain ⟨hv114, N114q, K114⟩ := hQ114
    subst hv114
    obtain ⟨h114, e114⟩ : ∃ z, T114.heap = z := ⟨_, rfl⟩
    rw [e114] at K114
    have Xo114 : Old Z n0 h114 := Xo110.keep K114 all0
    have KK114 : Keep h0 h114 [] := KK110.trans K114 all0
    have N114 := Fr.app N110 N114q
    refine own_to (V := T114.setTop (mkF m 242 #[.val (.int qw), .val (.int qt), .val (.int qv), .val (.int qu), .val (.int qf), .val (.int v5), .val (.int v6), .val (.int v7), .val (.int v8), .val (.int v9), .val (.int v10), .val (.int v11), .val (.int v12), .val (.int v13), .val (.int v14), .val (.int v15), .val (.int v16), .val (.int v17), .val (.int v18), .val (.int v19), .val (.ref oa101), .val (.ref oa102), .val (.ref oa103), .val (.ref oa104), .val (.ref b105), .val (.ref b109), .unset] [(.int (1 : Int32))])) ?_ (fun t k => st114.trans k)
    exact own_retNW X114 hx hS110 (own_hk e114 (Nat.le_trans hk110 K114.1)) (t := .boolean) (w := (1 : Int32)) hret (by decide) rfl hlk (hb hby at_242) (by rw [e114]; exact (⟨rfl, N114, KK114⟩)) (by decide) (by decide)
  · skip
    refine own_to (V := T110.setTop (mkF m 246 #[.val (.int qw), .val (.int qt), .val (.int qv), .val (.int qu), .val (.int qf), .val (.int v5), .val (.int v6), .val (.int v7), .val (.int v8), .val (.int v9), .val (.int v10), .val (.int v11), .val (.int v12), .val (.int v13), .val (.int v14), .val (.int v15), .val (.int v16), .val (.int v17), .val (.int v18), .val (.int v19), .val (.ref oa101), .val (.ref oa102), .val (.ref oa103), .val (.ref oa104), .val (.ref b105), .val (.ref b109), .unset] [(.int (2 : Int32)), (.int v11)])) ?_ fun t k => (by
      refine XS.icmpYes X110.here hx rfl (pc0 := 232) (pc' := 243) rfl (hb hby at_232) rfl (feq (hc232_113 : ¬ (v11 = (1 : Int32)))).2 (by decide) (by decide) ?_
      refine XS.iload X110.here hx rfl (hb hby at_243) rfl ?_
      refine XS.iconst X110.here hx rfl (hb hby at_245) ?_
      exact k)
    by_cases hc246_116 : v11 = (2 : Int32)
    · skip
      refine own_to (V := T110.setTop (mkF m 252 #[.val (.int qw), .val (.int qt), .val (.int qv), .val (.int qu), .val (.int qf), .val (.int v5), .val (.int v6), .val (.int v7), .val (.int v8), .val (.int v9), .val (.int v10), .val (.int v11), .val (.int v12), .val (.int v13), .val (.int v14), .val (.int v15), .val (.int v16), .val (.int v17), .val (.int v18), .val (.int v19), .val (.ref oa101), .val (.ref oa102), .val (.ref oa103), .val (.ref oa104), .val (.ref b105), .val (.ref b109), .unset] [.null, (.ref b105)])) ?_ fun t k => (by
        refine XS.icmpNo X110.here hx rfl (hb hby at_246) rfl (teq (hc246_116 : v11 = (2 : Int32))).2 ?_
        refine XS.aload X110.here hx rfl (hb hby at_249) rfl rfl ?_
        refine XS.aconstNull X110.here hx rfl (hb hby at_251) ?_
        exact k)
      have F118 : Exa Z h110 b105 "com/example/eager_query/eagerquery/model/Token" := (((A105.keep K106).ext E109).keep K110)
      obtain ⟨cq117, kq117, q117a, q117b, q117c⟩ := isOf hZ110 e110 F118
      obtain ⟨_, _, ⟨T117, L117, k117, n117⟩, -, X117, ⟨Lc117, hQ117, l117, y117, z117⟩, st117⟩ := X110.virtualBack hx (y := (⟨"com/example/eager_query/eagerquery/model/Token", "equals", "(Ljava/lang/Object;)Z"⟩ : MethodName)) (z := (⟨"com/example/eager_query/eagerquery/model/Token", "equals", "(Ljava/lang/Object;)Z"⟩ : MethodName)) hown110 (mvT hZ110 (hw _ (List.mem_of_getElem? (i := 61) rfl))) (mvT hZ110 (hw _ (List.mem_of_getElem? (i := 62) rfl))) (notFace_of_selects (args := #[]) (mvT hZ110 (hw _ (List.mem_of_getElem? (i := 64) rfl)))) (mvT hZ110 (hw _ (List.mem_of_getElem? (i := 64) rfl))) (mvT hZ110 (hw _ (List.mem_of_getElem? (i := 63) rfl))) (by decide) (backOf (W := 0) (own_rmeqN l Z a0 hw hst [] b105 h110 n0 Xo110 F118) hZ110 (hw _ (List.mem_of_getElem? (i := 65) rfl)) (hw _ (List.mem_of_getElem? (i := 36) rfl)) (by decide) (by decide)) q117a q117c (g := (mkF m 252 #[.val (.int qw), .val (.int qt), .val (.int qv), .val (.int qu), .val (.int qf), .val (.int v5), .val (.int v6), .val (.int v7), .val (.int v8), .val (.int v9), .val (.int v10), .val (.int v11), .val (.int v12), .val (.int v13), .val (.int v14), .val (.int v15), .val (.int v16), .val (.int v17), .val (.int v18), .val (.int v19), .val (.ref oa101), .val (.ref oa102), .val (.ref oa103), .val (.ref oa104), .val (.ref b105), .val (.ref b109), .unset] [.null, (.ref b105)])) rfl (by rw [hml]; rfl) (Steps.refl _) (argsL := [.null]) (rest := []) (lenOf own_pd5 rfl) rfl (by show 2 * 0 + _ ≤ _; exact Nat.le_of_eq rfl) (hb hby at_252) (fun _ _ => ⟨rfl, e110, (by decide : 22 + 0 ≤ _), (by decide : 108 + 0 ≤ _)⟩)
      dsimp only [Pt.U, Pt.locs, Pt.cells, Pt.slots] at X117 l117 y117 z117 st117 hQ117
      subst l117 y117 z117
      obtain ⟨hv117, N117q, K117⟩ := hQ117
      subst hv117
      obtain ⟨h117, e117⟩ : ∃ z, T117.heap = z := ⟨_, rfl⟩
      rw [e117] at K117
      have Xo117 : Old Z n0 h117 := Xo110.keep K117 all0
      have KK117 : Keep h0 h117 [] := KK110.trans K117 all0
      have N117 := Fr.app N110 N117q
      refine own_to (V := T117.setTop (mkF m 255 #[.val (.int qw), .val (.int qt), .val (.int qv), .val (.int qu), .val (.int qf), .val (.int v5), .val (.int v6), .val (.int v7), .val (.int v8), .val (.int v9), .val (.int v10), .val (.int v11), .val (.int v12), .val (.int v13), .val (.int v14), .val (.int v15), .val (.int v16), .val (.int v17), .val (.int v18), .val (.int v19), .val (.ref oa101), .val (.ref oa102), .val (.ref oa103), .val (.ref oa104), .val (.ref b105), .val (.ref b109), .unset] [(.int (0 : Int32))])) ?_ (fun t k => st117.trans k)
      refine own_to (V := T117.setTop (mkF m 263 #[.val (.int qw), .val (.int qt), .val (.int qv), .val (.int qu), .val (.int qf), .val (.int v5), .val (.int v6), .val (.int v7), .val (.int v8), .val (.int v9), .val (.int v10), .val (.int v11), .val (.int v12), .val (.int v13), .val (.int v14), .val (.int v15), .val (.int v16), .val (.int v17), .val (.int v18), .val (.int v19), .val (.ref oa101), .val (.ref oa102), .val (.ref oa103), .val (.ref oa104), .val (.ref b105), .val (.ref b109), .unset] [(.int (1 : Int32))])) ?_ fun t k => (by
        refine XS.ifNo X117.here hx rfl (hb hby at_255) rfl ((if0 _ _).trans (teq ((by decide) : (0 : Int32) = (0 : Int32))).2) ?_
        refine XS.iconst X117.here hx rfl (hb hby at_258) ?_
        refine XS.goto X117.here hx rfl (pc0 := 259) (pc' := 263) rfl (hb hby at_259) (by decide) (by decide) ?_
        exact k)
      exact own_retNW X117 hx hS110 (own_hk e117 (Nat.le_trans hk110 K117.1)) (t := .boolean) (w := (1 : Int32)) hret (by decide) rfl hlk (hb hby at_263) (by rw [e117]; exact (⟨rfl, N117, KK117⟩)) (by decide) (by decide)
    · skip
      refine own_to (V := T110.setTop (mkF m 267 #[.val (.int qw), .val (.int qt), .val (.int qv), .val (.int qu), .val (.int qf), .val (.int v5), .val (.int v6), .val (.int v7), .val (.int v8), .val (.int v9), .val (.int v10), .val (.int v11), .val (.int v12), .val (.int v13), .val (.int v14), .val (.int v15), .val (.int v16), .val (.int v17), .val (.int v18), .val (.int v19), .val (.ref oa101), .val (.ref oa102), .val (.ref oa103), .val (.ref oa104), .val (.ref b105), .val (.ref b109), .unset] [(.int (3 : Int32)), (.int v11)])) ?_ fun t k => (by
        refine XS.icmpYes X110.here hx rfl (pc0 := 246) (pc' := 264) rfl (hb hby at_246) rfl (feq (hc246_116 : ¬ (v11 = (2 : Int32)))).2 (by decide) (by decide) ?_
        refine XS.iload X110.here hx rfl (hb hby at_264) rfl ?_
        refine XS.iconst X110.here hx rfl (hb hby at_266) ?_
        exact k)
      by_cases hc267_119 : v11 = (3 : Int32)
      · skip
        refine own_to (V := T110.setTop (mkF m 274 #[.val (.int qw), .val (.int qt), .val (.int qv), .val (.int qu), .val (.int qf), .val (.int v5), .val (.int v6), .val (.int v7), .val (.int v8), .val (.int v9), .val (.int v10), .val (.int v11), .val (.int v12), .val (.int v13), .val (.int v14), .val (.int v15), .val (.int v16), .val (.int v17), .val (.int v18), .val (.int v19), .val (.ref oa101), .val (.ref oa102), .val (.ref oa103), .val (.ref oa104), .val (.ref b105), .val (.ref b109), .unset] [(.ref oa101), (.ref b105)])) ?_ fun t k => (by
          refine XS.icmpNo X110.here hx rfl (hb hby at_267) rfl (teq (hc267_119 : v11 = (3 : Int32))).2 ?_
          refine XS.aload X110.here hx rfl (hb hby at_270) rfl rfl ?_
          refine XS.aload X110.here hx rfl (hb hby at_272) rfl rfl ?_
          exact k)
        have F121 : Exa Z h110 b105 "com/example/eager_query/eagerquery/model/Token" := (((A105.keep K106).ext E109).keep K110)
        have F122 : own_Str Z h110 oa101 ou101 (own_tok v5 v12 v13) := (((F107.keep K106 (own_nmS (Nat.ne_of_lt (Nat.lt_of_lt_of_le (Nat.lt_of_lt_of_le (Nat.lt_of_lt_of_le (Nat.lt_of_lt_of_le g101_3.lt K102.1) K103.1) K104.1) (Nat.le_of_eq g105.symm))) own_nm0) (own_nmS (Nat.ne_of_lt (Nat.lt_of_lt_of_le (Nat.lt_of_lt_of_le (Nat.lt_of_lt_of_le (Nat.lt_of_lt_of_le g101_3.lt2 K102.1) K103.1) K104.1) (Nat.le_of_eq g105.symm))) own_nm0)).ext E109).keep K110 (own_nmS (Nat.ne_of_lt (Nat.lt_of_lt_of_le (Nat.lt_of_lt_of_le (Nat.lt_of_lt_of_le (Nat.lt_of_lt_of_le (Nat.lt_of_lt_of_le (Nat.lt_of_lt_of_le g101_3.lt K102.1) K103.1) K104.1) E105.1) K106.1) (Nat.le_of_eq g109.symm))) own_nm0) (own_nmS (Nat.ne_of_lt (Nat.lt_of_lt_of_le (Nat.lt_of_lt_of_le (Nat.lt_of_lt_of_le (Nat.lt_of_lt_of_le (Nat.lt_of_lt_of_le (Nat.lt_of_lt_of_le g101_3.lt2 K102.1) K103.1) K104.1) E105.1) K106.1) (Nat.le_of_eq g109.symm))) own_nm0))
        obtain ⟨cq120, kq120, q120a, q120b, q120c⟩ := isOf hZ110 e110 F121
        obtain ⟨_, _, ⟨T120, L120, k120, n120⟩, -, X120, ⟨Lc120, hQ120, l120, y120, z120⟩, st120⟩ := X110.virtualBack hx (y := (⟨"com/example/eager_query/eagerquery/model/Token", "equals", "(Ljava/lang/Object;)Z"⟩ : MethodName)) (z := (⟨"com/example/eager_query/eagerquery/model/Token", "equals", "(Ljava/lang/Object;)Z"⟩ : MethodName)) hown110 (mvT hZ110 (hw _ (List.mem_of_getElem? (i := 61) rfl))) (mvT hZ110 (hw _ (List.mem_of_getElem? (i := 62) rfl))) (notFace_of_selects (args := #[]) (mvT hZ110 (hw _ (List.mem_of_getElem? (i := 64) rfl)))) (mvT hZ110 (hw _ (List.mem_of_getElem? (i := 64) rfl))) (mvT hZ110 (hw _ (List.mem_of_getElem? (i := 63) rfl))) (by decide) (backOf (W := 0) (own_rmeqS l Z a0 hw hst [] b105 oa101 h110 n0 Xo110 F121 F122.1) hZ110 (hw _ (List.mem_of_getElem? (i := 65) rfl)) (hw _ (List.mem_of_getElem? (i := 36) rfl)) (by decide) (by decide)) q120a q120c (g := (mkF m 274 #[.val (.int qw), .val (.int qt), .val (.int qv), .val (.int qu), .val (.int qf), .val (.int v5), .val (.int v6), .val (.int v7), .val (.int v8), .val (.int v9), .val (.int v10), .val (.int v11), .val (.int v12), .val (.int v13), .val (.int v14), .val (.int v15), .val (.int v16), .val (.int v17), .val (.int v18), .val (.int v19), .val (.ref oa101), .val (.ref oa102), .val (.ref oa103), .val (.ref oa104), .val (.ref b105), .val (.ref b109), .unset] [(.ref oa101), (.ref b105)])) rfl (by rw [hml]; rfl) (Steps.refl _) (argsL := [(.ref oa101)]) (rest := []) (lenOf own_pd5 rfl) rfl (by show 2 * 0 + _ ≤ _; exact Nat.le_of_eq rfl) (hb hby at_274) (fun _ _ => ⟨rfl, e110, (by decide : 22 + 0 ≤ _), (by decide : 108 + 0 ≤ _)⟩)
        dsimp only [Pt.U, Pt.locs, Pt.cells, Pt.slots] at X120 l120 y120 z120 st120 hQ120
        subst l120 y120 z120
        obtain ⟨hv120, N120q, K120⟩ := hQ120
        subst hv120
        obtain ⟨h120, e120⟩ : ∃ z, T120.heap = z := ⟨_, rfl⟩
        rw [e120] at K120
        have Xo120 : Old Z n0 h120 := Xo110.keep K120 all0
        have KK120 : Keep h0 h120 [] := KK110.trans K120 all0
        have N120 := Fr.app N110 N120q
        refine own_to (V := T120.setTop (mkF m 277 #[.val (.int qw), .val (.int qt), .val (.int qv), .val (.int qu), .val (.int qf), .val (.int v5), .val (.int v6), .val (.int v7), .val (.int v8), .val (.int v9), .val (.int v10), .val (.int v11), .val (.int v12), .val (.int v13), .val (.int v14), .val (.int v15), .val (.int v16), .val (.int v17), .val (.int v18), .val (.int v19), .val (.ref oa101), .val (.ref oa102), .val (.ref oa103), .val (.ref oa104), .val (.ref b105), .val (.ref b109), .unset] [(.int (0 : Int32))])) ?_ (fun t k => st120.trans k)
        refine own_to (V := T120.setTop (mkF m 283 #[.val (.int qw), .val (.int qt), .val (.int qv), .val (.int qu), .val (.int qf), .val (.int v5), .val (.int v6), .val (.int v7), .val (.int v8), .val (.int v9), .val (.int v10), .val (.int v11), .val (.int v12), .val (.int v13), .val (.int v14), .val (.int v15), .val (.int v16), .val (.int v17), .val (.int v18), .val (.int v19), .val (.ref oa101), .val (.ref oa102), .val (.ref oa103), .val (.ref oa104), .val (.ref b105), .val (.ref b109), .unset] [(.int qw), (.ref b105)])) ?_ fun t k => (by
          refine XS.ifNo X120.here hx rfl (hb hby at_277) rfl ((if0 _ _).trans (teq ((by decide) : (0 : Int32) = (0 : Int32))).2) ?_
          refine XS.aload X120.here hx rfl (hb hby at_280) rfl rfl ?_
          refine XS.iloadN X120.here hx rfl (hb hby at_282) rfl ?_
          exact k)
        obtain ⟨_, _, ⟨T123, L123, k123, n123⟩, -, X123, ⟨Lc123, hQ123, l123, y123, z123⟩, st123⟩ := Jvm.LawKit.callS X120 hx (y := (⟨"java/lang/Integer", "valueOf", "(I)Ljava/lang/Integer;"⟩ : MethodName)) hown110 (mvT hZ110 (hw _ (List.mem_of_getElem? (i := 80) rfl))) (mvT hZ110 (hw _ (List.mem_of_getElem? (i := 81) rfl))) (mvT hZ110 (hw _ (List.mem_of_getElem? (i := 82) rfl))) (mvT hZ110 (hw _ (List.mem_of_getElem? (i := 83) rfl))) (by decide) (backOf (W := 1) (own_rmival l Z a0 hw hst [] qw h120 n0 Xo120 ) hZ110 (hw _ (List.mem_of_getElem? (i := 83) rfl)) (hw _ (List.mem_of_getElem? (i := 82) rfl)) (by decide) (by decide)) (g := (mkF m 283 #[.val (.int qw), .val (.int qt), .val (.int qv), .val (.int qu), .val (.int qf), .val (.int v5), .val (.int v6), .val (.int v7), .val (.int v8), .val (.int v9), .val (.int v10), .val (.int v11), .val (.int v12), .val (.int v13), .val (.int v14), .val (.int v15), .val (.int v16), .val (.int v17), .val (.int v18), .val (.int v19), .val (.ref oa101), .val (.ref oa102), .val (.ref oa103), .val (.ref oa104), .val (.ref b105), .val (.ref b109), .unset] [(.int qw), (.ref b105)])) rfl (by rw [hml]; rfl) (argsL := [(.int qw)]) (rest := [(.ref b105)]) (lenOf own_pd8 rfl) rfl (by show 2 * 0 + _ ≤ _; exact Nat.le_of_eq rfl) (hb hby at_283) (fun _ _ => ⟨rfl, e120, (by decide : 22 + 1 ≤ _), (by decide : 108 + 1 ≤ _)⟩)
        dsimp only [Pt.U, Pt.locs, Pt.cells, Pt.slots] at X123 l123 y123 z123 st123 hQ123
        subst l123 y123 z123
        obtain ⟨oi123, hv123, N123q, K123, g123_0, g123_1⟩ := hQ123
        subst hv123
        obtain ⟨h123, e123⟩ : ∃ z, T123.heap = z := ⟨_, rfl⟩
        rw [e123] at K123 g123_0 g123_1
        have Xo123 : Old Z n0 h123 := Xo120.keep K123 all0
        have KK123 : Keep h0 h123 [] := KK120.trans K123 all0
        have N123 := Fr.app N120 N123q
        refine own_to (V := T123.setTop (mkF m 286 #[.val (.int qw), .val (.int qt), .val (.int qv), .val (.int qu), .val (.int qf), .val (.int v5), .val (.int v6), .val (.int v7), .val (.int v8), .val (.int v9), .val (.int v10), .val (.int v11), .val (.int v12), .val (.int v13), .val (.int v14), .val (.int v15), .val (.int v16), .val (.int v17), .val (.int v18), .val (.int v19), .val (.ref oa101), .val (.ref oa102), .val (.ref oa103), .val (.ref oa104), .val (.ref b105), .val (.ref b109), .unset] [(.ref oi123), (.ref b105)])) ?_ st123
        have F125 : Exa Z h123 b105 "com/example/eager_query/eagerquery/model/Token" := ((F121.keep K120).keep K123)
        obtain ⟨cq124, kq124, q124a, q124b, q124c⟩ := isOf hZ110 e123 F125
        obtain ⟨_, _, ⟨T124, L124, k124, n124⟩, -, X124, ⟨Lc124, hQ124, l124, y124, z124⟩, st124⟩ := X123.virtualBack hx (y := (⟨"com/example/eager_query/eagerquery/model/Token", "equals", "(Ljava/lang/Object;)Z"⟩ : MethodName)) (z := (⟨"com/example/eager_query/eagerquery/model/Token", "equals", "(Ljava/lang/Object;)Z"⟩ : MethodName)) hown110 (mvT hZ110 (hw _ (List.mem_of_getElem? (i := 61) rfl))) (mvT hZ110 (hw _ (List.mem_of_getElem? (i := 62) rfl))) (notFace_of_selects (args := #[]) (mvT hZ110 (hw _ (List.mem_of_getElem? (i := 64) rfl)))) (mvT hZ110 (hw _ (List.mem_of_getElem? (i := 64) rfl))) (mvT hZ110 (hw _ (List.mem_of_getElem? (i := 63) rfl))) (by decide) (backOf (W := 0) (own_rmeqJ l Z a0 hw hst [] b105 oi123 h123 n0 Xo123 F125 g123_0) hZ110 (hw _ (List.mem_of_getElem? (i := 65) rfl)) (hw _ (List.mem_of_getElem? (i := 36) rfl)) (by decide) (by decide)) q124a q124c (g := (mkF m 286 #[.val (.int qw), .val (.int qt), .val (.int qv), .val (.int qu), .val (.int qf), .val (.int v5), .val (.int v6), .val (.int v7), .val (.int v8), .val (.int v9), .val (.int v10), .val (.int v11), .val (.int v12), .val (.int v13), .val (.int v14), .val (.int v15), .val (.int v16), .val (.int v17), .val (.int v18), .val (.int v19), .val (.ref oa101), .val (.ref oa102), .val (.ref oa103), .val (.ref oa104), .val (.ref b105), .val (.ref b109), .unset] [(.ref oi123), (.ref b105)])) rfl (by rw [hml]; rfl) (Steps.refl _) (argsL := [(.ref oi123)]) (rest := []) (lenOf own_pd5 rfl) rfl (by show 2 * 0 + _ ≤ _; exact Nat.le_of_eq rfl) (hb hby at_286) (fun _ _ => ⟨rfl, e123, (by decide : 23 + 0 ≤ _), (by decide : 109 + 0 ≤ _)⟩)
        dsimp only [Pt.U, Pt.locs, Pt.cells, Pt.slots] at X124 l124 y124 z124 st124 hQ124
        subst l124 y124 z124
        obtain ⟨hv124, N124q, K124⟩ := hQ124
        subst hv124
        obtain ⟨h124, e124⟩ : ∃ z, T124.heap = z := ⟨_, rfl⟩
        rw [e124] at K124
        have Xo124 : Old Z n0 h124 := Xo123.keep K124 all0
        have KK124 : Keep h0 h124 [] := KK123.trans K124 all0
        have N124 := Fr.app N123 N124q
        refine own_to (V := T124.setTop (mkF m 289 #[.val (.int qw), .val (.int qt), .val (.int qv), .val (.int qu), .val (.int qf), .val (.int v5), .val (.int v6), .val (.int v7), .val (.int v8), .val (.int v9), .val (.int v10), .val (.int v11), .val (.int v12), .val (.int v13), .val (.int v14), .val (.int v15), .val (.int v16), .val (.int v17), .val (.int v18), .val (.int v19), .val (.ref oa101), .val (.ref oa102), .val (.ref oa103), .val (.ref oa104), .val (.ref b105), .val (.ref b109), .unset] [(.int (0 : Int32))])) ?_ (fun t k => st124.trans k)
        refine own_to (V := T124.setTop (mkF m 297 #[.val (.int qw), .val (.int qt), .val (.int qv), .val (.int qu), .val (.int qf), .val (.int v5), .val (.int v6), .val (.int v7), .val (.int v8), .val (.int v9), .val (.int v10), .val (.int v11), .val (.int v12), .val (.int v13), .val (.int v14), .val (.int v15), .val (.int v16), .val (.int v17), .val (.int v18), .val (.int v19), .val (.ref oa101), .val (.ref oa102), .val (.ref oa103), .val (.ref oa104), .val (.ref b105), .val (.ref b109), .unset] [(.int (1 : Int32))])) ?_ fun t k => (by
          refine XS.ifNo X124.here hx rfl (hb hby at_289) rfl ((if0 _ _).trans (teq ((by decide) : (0 : Int32) = (0 : Int32))).2) ?_
          refine XS.iconst X124.here hx rfl (hb hby at_292) ?_
          refine XS.goto X124.here hx rfl (pc0 := 293) (pc' := 297) rfl (hb hby at_293) (by decide) (by decide) ?_
          exact k)
        exact own_retNW X124 hx hS110 (own_hk e124 (Nat.le_trans (Nat.le_trans (Nat.le_trans hk110 K120.1) K123.1) K124.1)) (t := .boolean) (w := (1 : Int32)) hret (by decide) rfl hlk (hb hby at_297) (by rw [e124]; exact (⟨rfl, N124, KK124⟩)) (by decide) (by decide)
      · skip
        refine own_to (V := T110.setTop (mkF m 310 #[.val (.int qw), .val (.int qt), .val (.int qv), .val (.int qu), .val (.int qf), .val (.int v5), .val (.int v6), .val (.int v7), .val (.int v8), .val (.int v9), .val (.int v10), .val (.int v11), .val (.int v12), .val (.int v13), .val (.int v14), .val (.int v15), .val (.int v16), .val (.int v17), .val (.int v18), .val (.int v19), .val (.ref oa101), .val (.ref oa102), .val (.ref oa103), .val (.ref oa104), .val (.ref b105), .val (.ref b109), .unset] [(.int v17), (.int v16), (.int v7), (.int v13), (.int v12), (.int v5)])) ?_ fun t k => (by
          refine XS.icmpYes X110.here hx rfl (pc0 := 267) (pc' := 298) rfl (hb hby at_267) rfl (feq (hc267_119 : ¬ (v11 = (3 : Int32)))).2 (by decide) (by decide) ?_
          refine XS.iload X110.here hx rfl (hb hby at_298) rfl ?_
          refine XS.iload X110.here hx rfl (hb hby at_300) rfl ?_
          refine XS.iload X110.here hx rfl (hb hby at_302) rfl ?_
          refine XS.iload X110.here hx rfl (hb hby at_304) rfl ?_
          refine XS.iload X110.here hx rfl (hb hby at_306) rfl ?_
          refine XS.iload X110.here hx rfl (hb hby at_308) rfl ?_
          exact k)
        obtain ⟨_, _, ⟨T126, L126, k126, n126⟩, -, X126, ⟨Lc126, hQ126, l126, y126, z126⟩, st126⟩ := Jvm.LawKit.callS X110 hx (y := (⟨"com/example/eager_query/eagerquery/model/TokenEqualsPinLaw", "same", "(ICCICC)Z"⟩ : MethodName)) hown110 (mvT hZ110 (hw _ (List.mem_of_getElem? (i := 58) rfl))) (mvT hZ110 (hw _ (List.mem_of_getElem? (i := 59) rfl))) (mvT hZ110 (hw _ (List.mem_of_getElem? (i := 2) rfl))) (mvT hZ110 (hw _ (List.mem_of_getElem? (i := 60) rfl))) (by decide) (backOf (W := 0) (own_rmsame l Z a0 hw hst [] v5 v12 v13 v7 v16 v17 h110 n0 Xo110 i5 i7) hZ110 (hw _ (List.mem_of_getElem? (i := 60) rfl)) (hw _ (List.mem_of_getElem? (i := 2) rfl)) (by decide) (by decide)) (g := (mkF m 310 #[.val (.int qw), .val (.int qt), .val (.int qv), .val (.int qu), .val (.int qf), .val (.int v5), .val (.int v6), .val (.int v7), .val (.int v8), .val (.int v9), .val (.int v10), .val (.int v11), .val (.int v12), .val (.int v13), .val (.int v14), .val (.int v15), .val (.int v16), .val (.int v17), .val (.int v18), .val (.int v19), .val (.ref oa101), .val (.ref oa102), .val (.ref oa103), .val (.ref oa104), .val (.ref b105), .val (.ref b109), .unset] [(.int v17), (.int v16), (.int v7), (.int v13), (.int v12), (.int v5)])) rfl (by rw [hml]; rfl) (argsL := [(.int v5), (.int v12), (.int v13), (.int v7), (.int v16), (.int v17)]) (rest := []) (lenOf own_pd9 rfl) rfl (by show 2 * 0 + _ ≤ _; exact Nat.le_of_eq rfl) (hb hby at_310) (fun _ _ => ⟨rfl, e110, (by decide : 22 + 0 ≤ _), (by decide : 108 + 0 ≤ _)⟩)
        dsimp only [Pt.U, Pt.locs, Pt.cells, Pt.slots] at X126 l126 y126 z126 st126 hQ126
        subst l126 y126 z126
        rcases hQ126 with ⟨hv126, N126q, K126, g126_0⟩ | ⟨hv126, N126q, K126, g126_0⟩
        · skip
          subst hv126
          obtain ⟨h126, e126⟩ : ∃ z, T126.heap = z := ⟨_, rfl⟩
          rw [e126] at K126
          have Xo126 : Old Z n0 h126 := Xo110.keep K126 all0
          have KK126 : Keep h0 h126 [] := KK110.trans K126 all0
          have N126 := Fr.app N110 N126q
          refine own_to (V := T126.setTop (mkF m 313 #[.val (.int qw), .val (.int qt), .val (.int qv), .val (.int qu), .val (.int qf), .val (.int v5), .val (.int v6), .val (.int v7), .val (.int v8), .val (.int v9), .val (.int v10), .val (.int v11), .val (.int v12), .val (.int v13), .val (.int v14), .val (.int v15), .val (.int v16), .val (.int v17), .val (.int v18), .val (.int v19), .val (.ref oa101), .val (.ref oa102), .val (.ref oa103), .val (.ref oa104), .val (.ref b105), .val (.ref b109), .unset] [(.int (1 : Int32))])) ?_ st126
          refine own_to (V := T126.setTop (mkF m 328 #[.val (.int qw), .val (.int qt), .val (.int qv), .val (.int qu), .val (.int qf), .val (.int v5), .val (.int v6), .val (.int v7), .val (.int v8), .val (.int v9), .val (.int v10), .val (.int v11), .val (.int v12), .val (.int v13), .val (.int v14), .val (.int v15), .val (.int v16), .val (.int v17), .val (.int v18), .val (.int v19), .val (.ref oa101), .val (.ref oa102), .val (.ref oa103), .val (.ref oa104), .val (.ref b105), .val (.ref b109), .unset] [(.int v19), (.int v18), (.int v8), (.int v15), (.int v14), (.int v6)])) ?_ fun t k => (by
            refine XS.ifNo X126.here hx rfl (hb hby at_313) rfl ((if0 _ _).trans (feq ((by decide) : ¬ ((1 : Int32) = (0 : Int32)))).1) ?_
            refine XS.iload X126.here hx rfl (hb hby at_316) rfl ?_
            refine XS.iload X126.here hx rfl (hb hby at_318) rfl ?_
            refine XS.iload X126.here hx rfl (hb hby at_320) rfl ?_
            refine XS.iload X126.here hx rfl (hb hby at_322) rfl ?_
            refine XS.iload X126.here hx rfl (hb hby at_324) rfl ?_
            refine XS.iload X126.here hx rfl (hb hby at_326) rfl ?_
            exact k)
          obtain ⟨_, _, ⟨T127, L127, k127, n127⟩, -, X127, ⟨Lc127, hQ127, l127, y127, z127⟩, st127⟩ := Jvm.LawKit.callS X126 hx (y := (⟨"com/example/eager_query/eagerquery/model/TokenEqualsPinLaw", "same", "(ICCICC)Z"⟩ : MethodName)) hown110 (mvT hZ110 (hw _ (List.mem_of_getElem? (i := 58) rfl))) (mvT hZ110 (hw _ (List.mem_of_getElem? (i := 59) rfl))) (mvT hZ110 (hw _ (List.mem_of_getElem? (i := 2) rfl))) (mvT hZ110 (hw _ (List.mem_of_getElem? (i := 60) rfl))) (by decide) (backOf (W := 0) (own_rmsame l Z a0 hw hst [] v6 v14 v15 v8 v18 v19 h126 n0 Xo126 i6 i8) hZ110 (hw _ (List.mem_of_getElem? (i := 60) rfl)) (hw _ (List.mem_of_getElem? (i := 2) rfl)) (by decide) (by decide)) (g := (mkF m 328 #[.val (.int qw), .val (.int qt), .val (.int qv), .val (.int qu), .val (.int qf), .val (.int v5), .val (.int v6), .val (.int v7), .val (.int v8), .val (.int v9), .val (.int v10), .val (.int v11), .val (.int v12), .val (.int v13), .val (.int v14), .val (.int v15), .val (.int v16), .val (.int v17), .val (.int v18), .val (.int v19), .val (.ref oa101), .val (.ref oa102), .val (.ref oa103), .val (.ref oa104), .val (.ref b105), .val (.ref b109), .unset] [(.int v19), (.int v18), (.int v8), (.int v15), (.int v14), (.int v6)])) rfl (by rw [hml]; rfl) (argsL := [(.int v6), (.int v14), (.int v15), (.int v8), (.int v18), (.int v19)]) (rest := []) (lenOf own_pd9 rfl) rfl (by show 2 * 0 + _ ≤ _; exact Nat.le_of_eq rfl) (hb hby at_328) (fun _ _ => ⟨rfl, e126, (by decide : 22 + 0 ≤ _), (by decide : 108 + 0 ≤ _)⟩)
          dsimp only [Pt.U, Pt.locs, Pt.cells, Pt.slots] at X127 l127 y127 z127 st127 hQ127
          subst l127 y127 z127
          rcases hQ127 with ⟨hv127, N127q, K127, g127_0⟩ | ⟨hv127, N127q, K127, g127_0⟩
          · skip
            subst hv127
            obtain ⟨h127, e127⟩ : ∃ z, T127.heap = z := ⟨_, rfl⟩
            rw [e127] at K127
            have Xo127 : Old Z n0 h127 := Xo126.keep K127 all0
            have KK127 : Keep h0 h127 [] := KK126.trans K127 all0
            have N127 := Fr.app N126 N127q
            refine own_to (V := T127.setTop (mkF m 331 #[.val (.int qw), .val (.int qt), .val (.int qv), .val (.int qu), .val (.int qf), .val (.int v5), .val (.int v6), .val (.int v7), .val (.int v8), .val (.int v9), .val (.int v10), .val (.int v11), .val (.int v12), .val (.int v13), .val (.int v14), .val (.int v15), .val (.int v16), .val (.int v17), .val (.int v18), .val (.int v19), .val (.ref oa101), .val (.ref oa102), .val (.ref oa103), .val (.ref oa104), .val (.ref b105), .val (.ref b109), .unset] [(.int (1 : Int32))])) ?_ st127
            refine own_to (V := T127.setTop (mkF m 341 #[.val (.int qw), .val (.int qt), .val (.int qv), .val (.int qu), .val (.int qf), .val (.int v5), .val (.int v6), .val (.int v7), .val (.int v8), .val (.int v9), .val (.int v10), .val (.int v11), .val (.int v12), .val (.int v13), .val (.int v14), .val (.int v15), .val (.int v16), .val (.int v17), .val (.int v18), .val (.int v19), .val (.ref oa101), .val (.ref oa102), .val (.ref oa103), .val (.ref oa104), .val (.ref b105), .val (.ref b109), .val (.int (1 : Int32))] [])) ?_ fun t k => (by
              refine XS.ifNo X127.here hx rfl (hb hby at_331) rfl ((if0 _ _).trans (feq ((by decide) : ¬ ((1 : Int32) = (0 : Int32)))).1) ?_
              refine XS.iconst X127.here hx rfl (hb hby at_334) ?_
              refine XS.goto X127.here hx rfl (pc0 := 335) (pc' := 339) rfl (hb hby at_335) (by decide) (by decide) ?_
              refine XS.istore X127.here hx rfl (hb hby at_339) rfl (l' := #[.val (.int qw), .val (.int qt), .val (.int qv), .val (.int qu), .val (.int qf), .val (.int v5), .val (.int v6), .val (.int v7), .val (.int v8), .val (.int v9), .val (.int v10), .val (.int v11), .val (.int v12), .val (.int v13), .val (.int v14), .val (.int v15), .val (.int v16), .val (.int v17), .val (.int v18), .val (.int v19), .val (.ref oa101), .val (.ref oa102), .val (.ref oa103), .val (.ref oa104), .val (.ref b105), .val (.ref b109), .val (.int (1 : Int32))]) rfl ?_
              exact k)
            have F128 : own_Str Z h127 oa101 ou101 (own_tok v5 v12 v13) := (((((F107.keep K106 (own_nmS (Nat.ne_of_lt (Nat.lt_of_lt_of_le (Nat.lt_of_lt_of_le (Nat.lt_of_lt_of_le (Nat.lt_of_lt_of_le g101_3.lt K102.1) K103.1) K104.1) (Nat.le_of_eq g105.symm))) own_nm0) (own_nmS (Nat.ne_of_lt (Nat.lt_of_lt_of_le (Nat.lt_of_lt_of_le (Nat.lt_of_lt_of_le (Nat.lt_of_lt_of_le g101_3.lt2 K102.1) K103.1) K104.1) (Nat.le_of_eq g105.symm))) own_nm0)).ext E109).keep K110 (own_nmS (Nat.ne_of_lt (Nat.lt_of_lt_of_le (Nat.lt_of_lt_of_le (Nat.lt_of_lt_of_le (Nat.lt_of_lt_of_le (Nat.lt_of_lt_of_le (Nat.lt_of_lt_of_le g101_3.lt K102.1) K103.1) K104.1) E105.1) K106.1) (Nat.le_of_eq g109.symm))) own_nm0) (own_nmS (Nat.ne_of_lt (Nat.lt_of_lt_of_le (Nat.lt_of_lt_of_le (Nat.lt_of_lt_of_le (Nat.lt_of_lt_of_le (Nat.lt_of_lt_of_le (Nat.lt_of_lt_of_le g101_3.lt2 K102.1) K103.1) K104.1) E105.1) K106.1) (Nat.le_of_eq g109.symm))) own_nm0)).keep K126 List.not_mem_nil List.not_mem_nil).keep K127 List.not_mem_nil List.not_mem_nil)
            have F129 : own_Str Z h127 oa102 ou102 (own_tok v6 v14 v15) := (((((F108.keep K106 (own_nmS (Nat.ne_of_lt (Nat.lt_of_lt_of_le (Nat.lt_of_lt_of_le (Nat.lt_of_lt_of_le g102_3.lt K103.1) K104.1) (Nat.le_of_eq g105.symm))) own_nm0) (own_nmS (Nat.ne_of_lt (Nat.lt_of_lt_of_le (Nat.lt_of_lt_of_le (Nat.lt_of_lt_of_le g102_3.lt2 K103.1) K104.1) (Nat.le_of_eq g105.symm))) own_nm0)).ext E109).keep K110 (own_nmS (Nat.ne_of_lt (Nat.lt_of_lt_of_le (Nat.lt_of_lt_of_le (Nat.lt_of_lt_of_le (Nat.lt_of_lt_of_le (Nat.lt_of_lt_of_le g102_3.lt K103.1) K104.1) E105.1) K106.1) (Nat.le_of_eq g109.symm))) own_nm0) (own_nmS (Nat.ne_of_lt (Nat.lt_of_lt_of_le (Nat.lt_of_lt_of_le (Nat.lt_of_lt_of_le (Nat.lt_of_lt_of_le (Nat.lt_of_lt_of_le g102_3.lt2 K103.1) K104.1) E105.1) K106.1) (Nat.le_of_eq g109.symm))) own_nm0)).keep K126 List.not_mem_nil List.not_mem_nil).keep K127 List.not_mem_nil List.not_mem_nil)
            have F130 : own_Str Z h127 oa103 ou103 (own_tok v7 v16 v17) := (((F111.keep K110 (own_nmS (Nat.ne_of_lt (Nat.lt_of_lt_of_le (Nat.lt_of_lt_of_le (Nat.lt_of_lt_of_le (Nat.lt_of_lt_of_le g103_3.lt K104.1) E105.1) K106.1) (Nat.le_of_eq g109.symm))) own_nm0) (own_nmS (Nat.ne_of_lt (Nat.lt_of_lt_of_le (Nat.lt_of_lt_of_le (Nat.lt_of_lt_of_le (Nat.lt_of_lt_of_le g103_3.lt2 K104.1) E105.1) K106.1) (Nat.le_of_eq g109.symm))) own_nm0)).keep K126 List.not_mem_nil List.not_mem_nil).keep K127 List.not_mem_nil List.not_mem_nil)
            have F131 : own_Str Z h127 oa104 ou104 (own_tok v8 v18 v19) := (((F112.keep K110 (own_nmS (Nat.ne_of_lt (Nat.lt_of_lt_of_le (Nat.lt_of_lt_of_le (Nat.lt_of_lt_of_le g104_3.lt E105.1) K106.1) (Nat.le_of_eq g109.symm))) own_nm0) (own_nmS (Nat.ne_of_lt (Nat.lt_of_lt_of_le (Nat.lt_of_lt_of_le (Nat.lt_of_lt_of_le g104_3.lt2 E105.1) K106.1) (Nat.le_of_eq g109.symm))) own_nm0)).keep K126 List.not_mem_nil List.not_mem_nil).keep K127 List.not_mem_nil List.not_mem_nil)
            have F132 : Exa Z h127 b105 "com/example/eager_query/eagerquery/model/Token" := (((((A105.keep K106).ext E109).keep K110).keep K126).keep K127)
            have F133 : Exa Z h127 b109 "com/example/eager_query/eagerquery/model/Token" := (((A109.keep K110).keep K126).keep K127)
            have F134 : Fld Z h127 b105 "com/example/eager_query/eagerquery/model/Token" "word" "Ljava/lang/String;" (.ref oa101) := ((((g106_0.ext E109).keep K110 (own_nmS (Nat.ne_of_lt (Nat.lt_of_lt_of_le (Nat.lt_of_lt_of_le A105.lt K106.1) (Nat.le_of_eq g109.symm))) own_nm0)).keep K126 List.not_mem_nil).keep K127 List.not_mem_nil)
            have F135 : Fld Z h127 b105 "com/example/eager_query/eagerquery/model/Token" "tag" "Ljava/lang/String;" (.ref oa102) := ((((g106_1.ext E109).keep K110 (own_nmS (Nat.ne_of_lt (Nat.lt_of_lt_of_le (Nat.lt_of_lt_of_le A105.lt K106.1) (Nat.le_of_eq g109.symm))) own_nm0)).keep K126 List.not_mem_nil).keep K127 List.not_mem_nil)
            have F136 : Fld Z h127 b109 "com/example/eager_query/eagerquery/model/Token" "word" "Ljava/lang/String;" (.ref oa103) := ((g110_0.keep K126 List.not_mem_nil).keep K127 List.not_mem_nil)
            have F137 : Fld Z h127 b109 "com/example/eager_query/eagerquery/model/Token" "tag" "Ljava/lang/String;" (.ref oa104) := ((g110_1.keep K126 List.not_mem_nil).keep K127 List.not_mem_nil)
            exact own_sglaw2 l Z a0 hw hst qw qt qv qu qf h0 n0 v5 v6 v7 v8 v9 v10 v11 v12 v13 v14 v15 v16 v17 v18 v19 (1 : Int32) oa101 oa102 oa103 oa104 b105 b109 ou101 ou102 ou103 ou104 hx hby hret hlk hml hnm hS110 hZ110 hown110 (X127.wide (L' := _) (cells' := 26) (slots' := 120) (fun x hx _ => hx) (by decide) (by decide)) e127 (Nat.le_trans (Nat.le_trans hk110 K126.1) K127.1) N127 Xo127 KK127 F128 F129 F130 F131 F132 F133 F134 F135 F136 F137 (Nat.ne_of_lt (Nat.lt_of_lt_of_le (Nat.lt_of_lt_of_le A105.lt K106.1) (Nat.le_of_eq g109.symm))) (Or.inl ⟨rfl, g126_0, g127_0⟩)
          · skip
            subst hv127
            obtain ⟨h127, e127⟩ : ∃ z, T127.heap = z := ⟨_, rfl⟩
            rw [e127] at K127
            have Xo127 : Old Z n0 h127 := Xo126.keep K127 all0
            have KK127 : Keep h0 h127 [] := KK126.trans K127 all0
            have N127 := Fr.app N126 N127q
            refine own_to (V := T127.setTop (mkF m 331 #[.val (.int qw), .val (.int qt), .val (.int qv), .val (.int qu), .val (.int qf), .val (.int v5), .val (.int v6), .val (.int v7), .val (.int v8), .val (.int v9), .val (.int v10), .val (.int v11), .val (.int v12), .val (.int v13), .val (.int v14), .val (.int v15), .val (.int v16), .val (.int v17), .val (.int v18), .val (.int v19), .val (.ref oa101), .val (.ref oa102), .val (.ref oa103), .val (.ref oa104), .val (.ref b105), .val (.ref b109), .unset] [(.int (0 : Int32))])) ?_ st127
            refine own_to (V := T127.setTop (mkF m 341 #[.val (.int qw), .val (.int qt), .val (.int qv), .val (.int qu), .val (.int qf), .val (.int v5), .val (.int v6), .val (.int v7), .val (.int v8), .val (.int v9), .val (.int v10), .val (.int v11), .val (.int v12), .val (.int v13), .val (.int v14), .val (.int v15), .val (.int v16), .val (.int v17), .val (.int v18), .val (.int v19), .val (.ref oa101), .val (.ref oa102), .val (.ref oa103), .val (.ref oa104), .val (.ref b105), .val (.ref b109), .val (.int (0 : Int32))] [])) ?_ fun t k => (by
              refine XS.ifYes X127.here hx rfl (pc0 := 331) (pc' := 338) rfl (hb hby at_331) rfl ((if0 _ _).trans (teq ((by decide) : (0 : Int32) = (0 : Int32))).1) (by decide) (by decide) ?_
              refine XS.iconst X127.here hx rfl (hb hby at_338) ?_
              refine XS.istore X127.here hx rfl (hb hby at_339) rfl (l' := #[.val (.int qw), .val (.int qt), .val (.int qv), .val (.int qu), .val (.int qf), .val (.int v5), .val (.int v6), .val (.int v7), .val (.int v8), .val (.int v9), .val (.int v10), .val (.int v11), .val (.int v12), .val (.int v13), .val (.int v14), .val (.int v15), .val (.int v16), .val (.int v17), .val (.int v18), .val (.int v19), .val (.ref oa101), .val (.ref oa102), .val (.ref oa103), .val (.ref oa104), .val (.ref b105), .val (.ref b109), .val (.int (0 : Int32))]) rfl ?_
              exact k)
            have F138 : own_Str Z h127 oa101 ou101 (own_tok v5 v12 v13) := (((((F107.keep K106 (own_nmS (Nat.ne_of_lt (Nat.lt_of_lt_of_le (Nat.lt_of_lt_of_le (Nat.lt_of_lt_of_le (Nat.lt_of_lt_of_le g101_3.lt K102.1) K103.1) K104.1) (Nat.le_of_eq g105.symm))) own_nm0) (own_nmS (Nat.ne_of_lt (Nat.lt_of_lt_of_le (Nat.lt_of_lt_of_le (Nat.lt_of_lt_of_le (Nat.lt_of_lt_of_le g101_3.lt2 K102.1) K103.1) K104.1) (Nat.le_of_eq g105.symm))) own_nm0)).ext E109).keep K110 (own_nmS (Nat.ne_of_lt (Nat.lt_of_lt_of_le (Nat.lt_of_lt_of_le (Nat.lt_of_lt_of_le (Nat.lt_of_lt_of_le (Nat.lt_of_lt_of_le (Nat.lt_of_lt_of_le g101_3.lt K102.1) K103.1) K104.1) E105.1) K106.1) (Nat.le_of_eq g109.symm))) own_nm0) (own_nmS (Nat.ne_of_lt (Nat.lt_of_lt_of_le (Nat.lt_of_lt_of_le (Nat.lt_of_lt_of_le (Nat.lt_of_lt_of_le (Nat.lt_of_lt_of_le (Nat.lt_of_lt_of_le g101_3.lt2 K102.1) K103.1) K104.1) E105.1) K106.1) (Nat.le_of_eq g109.symm))) own_nm0)).keep K126 List.not_mem_nil List.not_mem_nil).keep K127 List.not_mem_nil List.not_mem_nil)
            have F139 : own_Str Z h127 oa102 ou102 (own_tok v6 v14 v15) := (((((F108.keep K106 (own_nmS (Nat.ne_of_lt (Nat.lt_of_lt_of_le (Nat.lt_of_lt_of_le (Nat.lt_of_lt_of_le g102_3.lt K103.1) K104.1) (Nat.le_of_eq g105.symm))) own_nm0) (own_nmS (Nat.ne_of_lt (Nat.lt_of_lt_of_le (Nat.lt_of_lt_of_le (Nat.lt_of_lt_of_le g102_3.lt2 K103.1) K104.1) (Nat.le_of_eq g105.symm))) own_nm0)).ext E109).keep K110 (own_nmS (Nat.ne_of_lt (Nat.lt_of_lt_of_le (Nat.lt_of_lt_of_le (Nat.lt_of_lt_of_le (Nat.lt_of_lt_of_le (Nat.lt_of_lt_of_le g102_3.lt K103.1) K104.1) E105.1) K106.1) (Nat.le_of_eq g109.symm))) own_nm0) (own_nmS (Nat.ne_of_lt (Nat.lt_of_lt_of_le (Nat.lt_of_lt_of_le (Nat.lt_of_lt_of_le (Nat.lt_of_lt_of_le (Nat.lt_of_lt_of_le g102_3.lt2 K103.1) K104.1) E105.1) K106.1) (Nat.le_of_eq g109.symm))) own_nm0)).keep K126 List.not_mem_nil List.not_mem_nil).keep K127 List.not_mem_nil List.not_mem_nil)
            have F140 : own_Str Z h127 oa103 ou103 (own_tok v7 v16 v17) := (((F111.keep K110 (own_nmS (Nat.ne_of_lt (Nat.lt_of_lt_of_le (Nat.lt_of_lt_of_le (Nat.lt_of_lt_of_le (Nat.lt_of_lt_of_le g103_3.lt K104.1) E105.1) K106.1) (Nat.le_of_eq g109.symm))) own_nm0) (own_nmS (Nat.ne_of_lt (Nat.lt_of_lt_of_le (Nat.lt_of_lt_of_le (Nat.lt_of_lt_of_le (Nat.lt_of_lt_of_le g103_3.lt2 K104.1) E105.1) K106.1) (Nat.le_of_eq g109.symm))) own_nm0)).keep K126 List.not_mem_nil List.not_mem_nil).keep K127 List.not_mem_nil List.not_mem_nil)
            have F141 : own_Str Z h127 oa104 ou104 (own_tok v8 v18 v19) := (((F112.keep K110 (own_nmS (Nat.ne_of_lt (Nat.lt_of_lt_of_le (Nat.lt_of_lt_of_le (Nat.lt_of_lt_of_le g104_3.lt E105.1) K106.1) (Nat.le_of_eq g109.symm))) own_nm0) (own_nmS (Nat.ne_of_lt (Nat.lt_of_lt_of_le (Nat.lt_of_lt_of_le (Nat.lt_of_lt_of_le g104_3.lt2 E105.1) K106.1) (Nat.le_of_eq g109.symm))) own_nm0)).keep K126 List.not_mem_nil List.not_mem_nil).keep K127 List.not_mem_nil List.not_mem_nil)
            have F142 : Exa Z h127 b105 "com/example/eager_query/eagerquery/model/Token" := (((((A105.keep K106).ext E109).keep K110).keep K126).keep K127)
            have F143 : Exa Z h127 b109 "com/example/eager_query/eagerquery/model/Token" := (((A109.keep K110).keep K126).keep K127)
            have F144 : Fld Z h127 b105 "com/example/eager_query/eagerquery/model/Token" "word" "Ljava/lang/String;" (.ref oa101) := ((((g106_0.ext E109).keep K110 (own_nmS (Nat.ne_of_lt (Nat.lt_of_lt_of_le (Nat.lt_of_lt_of_le A105.lt K106.1) (Nat.le_of_eq g109.symm))) own_nm0)).keep K126 List.not_mem_nil).keep K127 List.not_mem_nil)
            have F145 : Fld Z h127 b105 "com/example/eager_query/eagerquery/model/Token" "tag" "Ljava/lang/String;" (.ref oa102) := ((((g106_1.ext E109).keep K110 (own_nmS (Nat.ne_of_lt (Nat.lt_of_lt_of_le (Nat.lt_of_lt_of_le A105.lt K106.1) (Nat.le_of_eq g109.symm))) own_nm0)).keep K126 List.not_mem_nil).keep K127 List.not_mem_nil)
            have F146 : Fld Z h127 b109 "com/example/eager_query/eagerquery/model/Token" "word" "Ljava/lang/String;" (.ref oa103) := ((g110_0.keep K126 List.not_mem_nil).keep K127 List.not_mem_nil)
            have F147 : Fld Z h127 b109 "com/example/eager_query/eagerquery/model/Token" "tag" "Ljava/lang/String;" (.ref oa104) := ((g110_1.keep K126 List.not_mem_nil).keep K127 List.not_mem_nil)
            exact own_sglaw2 l Z a0 hw hst qw qt qv qu qf h0 n0 v5 v6 v7 v8 v9 v10 v11 v12 v13 v14 v15 v16 v17 v18 v19 (0 : Int32) oa101 oa102 oa103 oa104 b105 b109 ou101 ou102 ou103 ou104 hx hby hret hlk hml hnm hS110 hZ110 hown110 (X127.wide (L' := _) (cells' := 26) (slots' := 120) (fun x hx _ => hx) (by decide) (by decide)) e127 (Nat.le_trans (Nat.le_trans hk110 K126.1) K127.1) N127 Xo127 KK127 F138 F139 F140 F141 F142 F143 F144 F145 F146 F147 (Nat.ne_of_lt (Nat.lt_of_lt_of_le (Nat.lt_of_lt_of_le A105.lt K106.1) (Nat.le_of_eq g109.symm))) (Or.inr ⟨rfl, fun q => g127_0 q.2⟩)
        · skip
          subst hv126
          obtain ⟨h126, e126⟩ : ∃ z, T126.heap = z := ⟨_, rfl⟩
          rw [e126] at K126
          have Xo126 : Old Z n0 h126 := Xo110.keep K126 all0
          have KK126 : Keep h0 h126 [] := KK110.trans K126 all0
          have N126 := Fr.app N110 N126q
          refine own_to (V := T126.setTop (mkF m 313 #[.val (.int qw), .val (.int qt), .val (.int qv), .val (.int qu), .val (.int qf), .val (.int v5), .val (.int v6), .val (.int v7), .val (.int v8), .val (.int v9), .val (.int v10), .val (.int v11), .val (.int v12), .val (.int v13), .val (.int v14), .val (.int v15), .val (.int v16), .val (.int v17), .val (.int v18), .val (.int v19), .val (.ref oa101), .val (.ref oa102), .val (.ref oa103), .val (.ref oa104), .val (.ref b105), .val (.ref b109), .unset] [(.int (0 : Int32))])) ?_ st126
          refine own_to (V := T126.setTop (mkF m 341 #[.val (.int qw), .val (.int qt), .val (.int qv), .val (.int qu), .val (.int qf), .val (.int v5), .val (.int v6), .val (.int v7), .val (.int v8), .val (.int v9), .val (.int v10), .val (.int v11), .val (.int v12), .val (.int v13), .val (.int v14), .val (.int v15), .val (.int v16), .val (.int v17), .val (.int v18), .val (.int v19), .val (.ref oa101), .val (.ref oa102), .val (.ref oa103), .val (.ref oa104), .val (.ref b105), .val (.ref b109), .val (.int (0 : Int32))] [])) ?_ fun t k => (by
            refine XS.ifYes X126.here hx rfl (pc0 := 313) (pc' := 338) rfl (hb hby at_313) rfl ((if0 _ _).trans (teq ((by decide) : (0 : Int32) = (0 : Int32))).1) (by decide) (by decide) ?_
            refine XS.iconst X126.here hx rfl (hb hby at_338) ?_
            refine XS.istore X126.here hx rfl (hb hby at_339) rfl (l' := #[.val (.int qw), .val (.int qt), .val (.int qv), .val (.int qu), .val (.int qf), .val (.int v5), .val (.int v6), .val (.int v7), .val (.int v8), .val (.int v9), .val (.int v10), .val (.int v11), .val (.int v12), .val (.int v13), .val (.int v14), .val (.int v15), .val (.int v16), .val (.int v17), .val (.int v18), .val (.int v19), .val (.ref oa101), .val (.ref oa102), .val (.ref oa103), .val (.ref oa104), .val (.ref b105), .val (.ref b109), .val (.int (0 : Int32))]) rfl ?_
            exact k)
          have F148 : own_Str Z h126 oa101 ou101 (own_tok v5 v12 v13) := ((((F107.keep K106 (own_nmS (Nat.ne_of_lt (Nat.lt_of_lt_of_le (Nat.lt_of_lt_of_le (Nat.lt_of_lt_of_le (Nat.lt_of_lt_of_le g101_3.lt K102.1) K103.1) K104.1) (Nat.le_of_eq g105.symm))) own_nm0) (own_nmS (Nat.ne_of_lt (Nat.lt_of_lt_of_le (Nat.lt_of_lt_of_le (Nat.lt_of_lt_of_le (Nat.lt_of_lt_of_le g101_3.lt2 K102.1) K103.1) K104.1) (Nat.le_of_eq g105.symm))) own_nm0)).ext E109).keep K110 (own_nmS (Nat.ne_of_lt (Nat.lt_of_lt_of_le (Nat.lt_of_lt_of_le (Nat.lt_of_lt_of_le (Nat.lt_of_lt_of_le (Nat.lt_of_lt_of_le (Nat.lt_of_lt_of_le g101_3.lt K102.1) K103.1) K104.1) E105.1) K106.1) (Nat.le_of_eq g109.symm))) own_nm0) (own_nmS (Nat.ne_of_lt (Nat.lt_of_lt_of_le (Nat.lt_of_lt_of_le (Nat.lt_of_lt_of_le (Nat.lt_of_lt_of_le (Nat.lt_of_lt_of_le (Nat.lt_of_lt_of_le g101_3.lt2 K102.1) K103.1) K104.1) E105.1) K106.1) (Nat.le_of_eq g109.symm))) own_nm0)).keep K126 List.not_mem_nil List.not_mem_nil)
          have F149 : own_Str Z h126 oa102 ou102 (own_tok v6 v14 v15) := ((((F108.keep K106 (own_nmS (Nat.ne_of_lt (Nat.lt_of_lt_of_le (Nat.lt_of_lt_of_le (Nat.lt_of_lt_of_le g102_3.lt K103.1) K104.1) (Nat.le_of_eq g105.symm))) own_nm0) (own_nmS (Nat.ne_of_lt (Nat.lt_of_lt_of_le (Nat.lt_of_lt_of_le (Nat.lt_of_lt_of_le g102_3.lt2 K103.1) K104.1) (Nat.le_of_eq g105.symm))) own_nm0)).ext E109).keep K110 (own_nmS (Nat.ne_of_lt (Nat.lt_of_lt_of_le (Nat.lt_of_lt_of_le (Nat.lt_of_lt_of_le (Nat.lt_of_lt_of_le (Nat.lt_of_lt_of_le g102_3.lt K103.1) K104.1) E105.1) K106.1) (Nat.le_of_eq g109.symm))) own_nm0) (own_nmS (Nat.ne_of_lt (Nat.lt_of_lt_of_le (Nat.lt_of_lt_of_le (Nat.lt_of_lt_of_le (Nat.lt_of_lt_of_le (Nat.lt_of_lt_of_le g102_3.lt2 K103.1) K104.1) E105.1) K106.1) (Nat.le_of_eq g109.symm))) own_nm0)).keep K126 List.not_mem_nil List.not_mem_nil)
          have F150 : own_Str Z h126 oa103 ou103 (own_tok v7 v16 v17) := ((F111.keep K110 (own_nmS (Nat.ne_of_lt (Nat.lt_of_lt_of_le (Nat.lt_of_lt_of_le (Nat.lt_of_lt_of_le (Nat.lt_of_lt_of_le g103_3.lt K104.1) E105.1) K106.1) (Nat.le_of_eq g109.symm))) own_nm0) (own_nmS (Nat.ne_of_lt (Nat.lt_of_lt_of_le (Nat.lt_of_lt_of_le (Nat.lt_of_lt_of_le (Nat.lt_of_lt_of_le g103_3.lt2 K104.1) E105.1) K106.1) (Nat.le_of_eq g109.symm))) own_nm0)).keep K126 List.not_mem_nil List.not_mem_nil)
          have F151 : own_Str Z h126 oa104 ou104 (own_tok v8 v18 v19) := ((F112.keep K110 (own_nmS (Nat.ne_of_lt (Nat.lt_of_lt_of_le (Nat.lt_of_lt_of_le (Nat.lt_of_lt_of_le g104_3.lt E105.1) K106.1) (Nat.le_of_eq g109.symm))) own_nm0) (own_nmS (Nat.ne_of_lt (Nat.lt_of_lt_of_le (Nat.lt_of_lt_of_le (Nat.lt_of_lt_of_le g104_3.lt2 E105.1) K106.1) (Nat.le_of_eq g109.symm))) own_nm0)).keep K126 List.not_mem_nil List.not_mem_nil)
          have F152 : Exa Z h126 b105 "com/example/eager_query/eagerquery/model/Token" := ((((A105.keep K106).ext E109).keep K110).keep K126)
          have F153 : Exa Z h126 b109 "com/example/eager_query/eagerquery/model/Token" := ((A109.keep K110).keep K126)
          have F154 : Fld Z h126 b105 "com/example/eager_query/eagerquery/model/Token" "word" "Ljava/lang/String;" (.ref oa101) := (((g106_0.ext E109).keep K110 (own_nmS (Nat.ne_of_lt (Nat.lt_of_lt_of_le (Nat.lt_of_lt_of_le A105.lt K106.1) (Nat.le_of_eq g109.symm))) own_nm0)).keep K126 List.not_mem_nil)
          have F155 : Fld Z h126 b105 "com/example/eager_query/eagerquery/model/Token" "tag" "Ljava/lang/String;" (.ref oa102) := (((g106_1.ext E109).keep K110 (own_nmS (Nat.ne_of_lt (Nat.lt_of_lt_of_le (Nat.lt_of_lt_of_le A105.lt K106.1) (Nat.le_of_eq g109.symm))) own_nm0)).keep K126 List.not_mem_nil)
          have F156 : Fld Z h126 b109 "com/example/eager_query/eagerquery/model/Token" "word" "Ljava/lang/String;" (.ref oa103) := (g110_0.keep K126 List.not_mem_nil)
          have F157 : Fld Z h126 b109 "com/example/eager_query/eagerquery/model/Token" "tag" "Ljava/lang/String;" (.ref oa104) := (g110_1.keep K126 List.not_mem_nil)
          exact own_sglaw2 l Z a0 hw hst qw qt qv qu qf h0 n0 v5 v6 v7 v8 v9 v10 v11 v12 v13 v14 v15 v16 v17 v18 v19 (0 : Int32) oa101 oa102 oa103 oa104 b105 b109 ou101 ou102 ou103 ou104 hx hby hret hlk hml hnm hS110 hZ110 hown110 (X126.wide (L' := _) (cells' := 26) (slots' := 120) (fun x hx _ => hx) (by decide) (by decide)) e126 (Nat.le_trans hk110 K126.1) N126 Xo126 KK126 F148 F149 F150 F151 F152 F153 F154 F155 F156 F157 (Nat.ne_of_lt (Nat.lt_of_lt_of_le (Nat.lt_of_lt_of_le A105.lt K106.1) (Nat.le_of_eq g109.symm))) (Or.inr ⟨rfl, fun q => g126_0 q.1⟩)
theorem own_ef_law (m : MethodId) (qw : Int32) (qt : Int32) (qv : Int32) (qu : Int32) (qf : Int32)  : entryFrame m #[(.int qw), (.int qt), (.int qv), (.int qu), (.int qf)] maxLocals = mkF m 0 #[.val (.int qw), .val (.int qt), .val (.int qv), .val (.int qu), .val (.int qf), .unset, .unset, .unset, .unset, .unset, .unset, .unset, .unset, .unset, .unset, .unset, .unset, .unset, .unset, .unset, .unset, .unset, .unset, .unset, .unset, .unset, .unset] [] := by first | (simp [entryFrame, mkF, argsToLocals, Value.category, maxLocals]; done) | rfl
set_option maxRecDepth 65536 in
set_option maxHeartbeats 40000000 in
theorem own_rmlaw (l : Launch) (Z : State) (a0 : Array Value) (hw : ∀ d ∈ tables_1, d.before a0 Z = true) (hst : own_St Z) (ws : List Jvm.Cond) (qw : Int32) (qt : Int32) (qv : Int32) (qu : Int32) (qf : Int32) (h0 : Heap) (n0 : Nat) (X00 : Old Z n0 h0)  :
    MetFree l x (head1 (Jvm.Cond.code x code maxLocals ret :: ws) room_1) (fun a U => a = #[(.int qw), (.int qt), (.int qv), (.int qu), (.int qf)] ∧ Z.Warmed39 U.vm ∧ U.heap = h0) (fun _ _ _ _ _ => True) (fun _ U o U' => ∃ v L, o = .returned v ∧ own_Qlaw Z qw qt qv qu qf h0 n0 v U'.heap L ∧ ReturnedEndW U o U' L room_1.cells room_1.slots) := by
  refine MetFree.of_bodySF (plainFor_of_name own_pn0) hisR ?_
  intro p e s m args below meth c s₁ Bd hml0 hP hK
  obtain ⟨rfl, hZ, hh⟩ := hP
  have hx := Bd.exec
  have hby := Bd.bytes
  have hret := Bd.returns
  have hlk : meth.locks = false := BodyLoose.notSynchronized Bd
  have hml : c.maxLocals = 27 := hml0
  have hown : s.vm.findClass "com/example/eager_query/eagerquery/model/TokenEqualsPinLaw" = some m.cls := findClass_of_methodNamed Bd.named
  have hnm := (name_of_methodNamed Bd.named Bd.method).1
  have X0 : Stand p l e room_1 (s.setVm s.vm) m #[(.int qw), (.int qt), (.int qv), (.int qu), (.int qf)] below meth c s₁ [] 0 0 := Stand.of_body Bd
  have e0 : s₁.heap = h0 := by rw [← hh, Bd.state]; rfl
  have N0 := Fr.nil n0
  have KK0 : Keep h0 h0 [] := Keep.refl h0 _
  have hS0 : s.Since s.vm 0 := (State.WarmedH.refl s).since 0
  have hk0 : 0 ≤ h0.size := Nat.zero_le _
  refine own_startW (own_Qlaw Z qw qt qv qu qf h0 n0) ?_
  refine own_to (V := s₁.setTop (mkF m 0 #[.val (.int qw), .val (.int qt), .val (.int qv), .val (.int qu), .val (.int qf), .unset, .unset, .unset, .unset, .unset, .unset, .unset, .unset, .unset, .unset, .unset, .unset, .unset, .unset, .unset, .unset, .unset, .unset, .unset, .unset, .unset, .unset] [])) ?_ (fun t k => castTop (own_ef_law m qw qt qv qu qf ) k)
  obtain ⟨⟨G1, O2, P5⟩, ⟨G3, O4, rG3⟩, ⟨iC, iL, iO1, iO2, iA, iE⟩, -⟩ := id hst
  obtain ⟨x101, hx101⟩ : ∃ z : Int32, z = ((1 : Int32) + (qf &&& (1 : Int32))) := ⟨_, rfl⟩
  refine own_to (V := s₁.setTop (mkF m 8 #[.val (.int qw), .val (.int qt), .val (.int qv), .val (.int qu), .val (.int qf), .val (.int x101), .unset, .unset, .unset, .unset, .unset, .unset, .unset, .unset, .unset, .unset, .unset, .unset, .unset, .unset, .unset, .unset, .unset, .unset, .unset, .unset, .unset] [])) ?_ fun t k => (by
    first | rw [hx101] at k | skip
    refine XS.iconst X0.here hx rfl (hb hby at_0) ?_
    refine XS.iload X0.here hx rfl (hb hby at_1) rfl ?_
    refine XS.iconst X0.here hx rfl (hb hby at_3) ?_
    refine XS.iand X0.here hx rfl (hb hby at_4) rfl ?_
    refine XS.iadd X0.here hx rfl (hb hby at_5) rfl ?_
    refine XS.istore X0.here hx rfl (hb hby at_6) rfl (l' := #[.val (.int qw), .val (.int qt), .val (.int qv), .val (.int qu), .val (.int qf), .val (.int ((1 : Int32) + (qf &&& (1 : Int32)))), .unset, .unset, .unset, .unset, .unset, .unset, .unset, .unset, .unset, .unset, .unset, .unset, .unset, .unset, .unset, .unset, .unset, .unset, .unset, .unset, .unset]) rfl ?_
    exact k)
  obtain ⟨x102, hx102⟩ : ∃ z : Int32, z = ((1 : Int32) + (((qf.toUInt32 >>> ((1 : Int32) &&& 31).toUInt32).toInt32) &&& (1 : Int32))) := ⟨_, rfl⟩
  refine own_to (V := s₁.setTop (mkF m 18 #[.val (.int qw), .val (.int qt), .val (.int qv), .val (.int qu), .val (.int qf), .val (.int x101), .val (.int x102), .unset, .unset, .unset, .unset, .unset, .unset, .unset, .unset, .unset, .unset, .unset, .unset, .unset, .unset, .unset, .unset, .unset, .unset, .unset, .unset] [])) ?_ fun t k => (by
    first | rw [hx102] at k | skip
    refine XS.iconst X0.here hx rfl (hb hby at_8) ?_
    refine XS.iload X0.here hx rfl (hb hby at_9) rfl ?_
    refine XS.iconst X0.here hx rfl (hb hby at_11) ?_
    refine XS.iushr X0.here hx rfl (hb hby at_12) rfl ?_
    refine XS.iconst X0.here hx rfl (hb hby at_13) ?_
    refine XS.iand X0.here hx rfl (hb hby at_14) rfl ?_
    refine XS.iadd X0.here hx rfl (hb hby at_15) rfl ?_
    refine XS.istore X0.here hx rfl (hb hby at_16) rfl (l' := #[.val (.int qw), .val (.int qt), .val (.int qv), .val (.int qu), .val (.int qf), .val (.int x101), .val (.int ((1 : Int32) + (((qf.toUInt32 >>> ((1 : Int32) &&& 31).toUInt32).toInt32) &&& (1 : Int32)))), .unset, .unset, .unset, .unset, .unset, .unset, .unset, .unset, .unset, .unset, .unset, .unset, .unset, .unset, .unset, .unset, .unset, .unset, .unset, .unset]) rfl ?_
    exact k)
  obtain ⟨x103, hx103⟩ : ∃ z : Int32, z = ((1 : Int32) + (((qf.toUInt32 >>> ((2 : Int32) &&& 31).toUInt32).toInt32) &&& (1 : Int32))) := ⟨_, rfl⟩
  refine own_to (V := s₁.setTop (mkF m 28 #[.val (.int qw), .val (.int qt), .val (.int qv), .val (.int qu), .val (.int qf), .val (.int x101), .val (.int x102), .val (.int x103), .unset, .unset, .unset, .unset, .unset, .unset, .unset, .unset, .unset, .unset, .unset, .unset, .unset, .unset, .unset, .unset, .unset, .unset, .unset] [])) ?_ fun t k => (by
    first | rw [hx103] at k | skip
    refine XS.iconst X0.here hx rfl (hb hby at_18) ?_
    refine XS.iload X0.here hx rfl (hb hby at_19) rfl ?_
    refine XS.iconst X0.here hx rfl (hb hby at_21) ?_
    refine XS.iushr X0.here hx rfl (hb hby at_22) rfl ?_
    refine XS.iconst X0.here hx rfl (hb hby at_23) ?_
    refine XS.iand X0.here hx rfl (hb hby at_24) rfl ?_
    refine XS.iadd X0.here hx rfl (hb hby at_25) rfl ?_
    refine XS.istore X0.here hx rfl (hb hby at_26) rfl (l' := #[.val (.int qw), .val (.int qt), .val (.int qv), .val (.int qu), .val (.int qf), .val (.int x101), .val (.int x102), .val (.int ((1 : Int32) + (((qf.toUInt32 >>> ((2 : Int32) &&& 31).toUInt32).toInt32) &&& (1 : Int32)))), .unset, .unset, .unset, .unset, .unset, .unset, .unset, .unset, .unset, .unset, .unset, .unset, .unset, .unset, .unset, .unset, .unset, .unset, .unset]) rfl ?_
    exact k)
  obtain ⟨x104, hx104⟩ : ∃ z : Int32, z = ((1 : Int32) + (((qf.toUInt32 >>> ((3 : Int32) &&& 31).toUInt32).toInt32) &&& (1 : Int32))) := ⟨_, rfl⟩
  refine own_to (V := s₁.setTop (mkF m 38 #[.val (.int qw), .val (.int qt), .val (.int qv), .val (.int qu), .val (.int qf), .val (.int x101), .val (.int x102), .val (.int x103), .val (.int x104), .unset, .unset, .unset, .unset, .unset, .unset, .unset, .unset, .unset, .unset, .unset, .unset, .unset, .unset, .unset, .unset, .unset, .unset] [])) ?_ fun t k => (by
    first | rw [hx104] at k | skip
    refine XS.iconst X0.here hx rfl (hb hby at_28) ?_
    refine XS.iload X0.here hx rfl (hb hby at_29) rfl ?_
    refine XS.iconst X0.here hx rfl (hb hby at_31) ?_
    refine XS.iushr X0.here hx rfl (hb hby at_32) rfl ?_
    refine XS.iconst X0.here hx rfl (hb hby at_33) ?_
    refine XS.iand X0.here hx rfl (hb hby at_34) rfl ?_
    refine XS.iadd X0.here hx rfl (hb hby at_35) rfl ?_
    refine XS.istore X0.here hx rfl (hb hby at_36) rfl (l' := #[.val (.int qw), .val (.int qt), .val (.int qv), .val (.int qu), .val (.int qf), .val (.int x101), .val (.int x102), .val (.int x103), .val (.int ((1 : Int32) + (((qf.toUInt32 >>> ((3 : Int32) &&& 31).toUInt32).toInt32) &&& (1 : Int32)))), .unset, .unset, .unset, .unset, .unset, .unset, .unset, .unset, .unset, .unset, .unset, .unset, .unset, .unset, .unset, .unset, .unset, .unset]) rfl ?_
    exact k)
  refine own_to (V := s₁.setTop (mkF m 44 #[.val (.int qw), .val (.int qt), .val (.int qv), .val (.int qu), .val (.int qf), .val (.int x101), .val (.int x102), .val (.int x103), .val (.int x104), .unset, .unset, .unset, .unset, .unset, .unset, .unset, .unset, .unset, .unset, .unset, .unset, .unset, .unset, .unset, .unset, .unset, .unset] [(.int (((qf.toUInt32 >>> ((4 : Int32) &&& 31).toUInt32).toInt32) &&& (1 : Int32)))])) ?_ fun t k => (by
    refine XS.iload X0.here hx rfl (hb hby at_38) rfl ?_
    refine XS.iconst X0.here hx rfl (hb hby at_40) ?_
    refine XS.iushr X0.here hx rfl (hb hby at_41) rfl ?_
    refine XS.iconst X0.here hx rfl (hb hby at_42) ?_
    refine XS.iand X0.here hx rfl (hb hby at_43) rfl ?_
    exact k)
  by_cases hc44_105 : (((qf.toUInt32 >>> ((4 : Int32) &&& 31).toUInt32).toInt32) &&& (1 : Int32)) = (0 : Int32)
  · skip
    refine own_to (V := s₁.setTop (mkF m 60 #[.val (.int qw), .val (.int qt), .val (.int qv), .val (.int qu), .val (.int qf), .val (.int x101), .val (.int x102), .val (.int x103), .val (.int x104), .val (.int qw), .unset, .unset, .unset, .unset, .unset, .unset, .unset, .unset, .unset, .unset, .unset, .unset, .unset, .unset, .unset, .unset, .unset] [(.int (((qf.toUInt32 >>> ((5 : Int32) &&& 31).toUInt32).toInt32) &&& (1 : Int32)))])) ?_ fun t k => (by
      refine XS.ifYes X0.here hx rfl (pc0 := 44) (pc' := 51) rfl (hb hby at_44) rfl ((if0 _ _).trans (teq (hc44_105 : (((qf.toUInt32 >>> ((4 : Int32) &&& 31).toUInt32).toInt32) &&& (1 : Int32)) = (0 : Int32))).1) (by decide) (by decide) ?_
      refine XS.iloadN X0.here hx rfl (hb hby at_51) rfl ?_
      refine XS.istore X0.here hx rfl (hb hby at_52) rfl (l' := #[.val (.int qw), .val (.int qt), .val (.int qv), .val (.int qu), .val (.int qf), .val (.int x101), .val (.int x102), .val (.int x103), .val (.int x104), .val (.int qw), .unset, .unset, .unset, .unset, .unset, .unset, .unset, .unset, .unset, .unset, .unset, .unset, .unset, .unset, .unset, .unset, .unset]) rfl ?_
      refine XS.iload X0.here hx rfl (hb hby at_54) rfl ?_
      refine XS.iconst X0.here hx rfl (hb hby at_56) ?_
      refine XS.iushr X0.here hx rfl (hb hby at_57) rfl ?_
      refine XS.iconst X0.here hx rfl (hb hby at_58) ?_
      refine XS.iand X0.here hx rfl (hb hby at_59) rfl ?_
      exact k)
    by_cases hc60_106 : (((qf.toUInt32 >>> ((5 : Int32) &&& 31).toUInt32).toInt32) &&& (1 : Int32)) = (0 : Int32)
    · skip
      obtain ⟨x107, hx107⟩ : ∃ z : Int32, z = (((qf.toUInt32 >>> ((6 : Int32) &&& 31).toUInt32).toInt32) &&& (3 : Int32)) := ⟨_, rfl⟩
      refine own_to (V := s₁.setTop (mkF m 79 #[.val (.int qw), .val (.int qt), .val (.int qv), .val (.int qu), .val (.int qf), .val (.int x101), .val (.int x102), .val (.int x103), .val (.int x104), .val (.int qw), .val (.int qt), .val (.int x107), .unset, .unset, .unset, .unset, .unset, .unset, .unset, .unset, .unset, .unset, .unset, .unset, .unset, .unset, .unset] [])) ?_ fun t k => (by
        first | rw [hx107] at k | skip
        refine XS.ifYes X0.here hx rfl (pc0 := 60) (pc' := 67) rfl (hb hby at_60) rfl ((if0 _ _).trans (teq (hc60_106 : (((qf.toUInt32 >>> ((5 : Int32) &&& 31).toUInt32).toInt32) &&& (1 : Int32)) = (0 : Int32))).1) (by decide) (by decide) ?_
        refine XS.iloadN X0.here hx rfl (hb hby at_67) rfl ?_
        refine XS.istore X0.here hx rfl (hb hby at_68) rfl (l' := #[.val (.int qw), .val (.int qt), .val (.int qv), .val (.int qu), .val (.int qf), .val (.int x101), .val (.int x102), .val (.int x103), .val (.int x104), .val (.int qw), .val (.int qt), .unset, .unset, .unset, .unset, .unset, .unset, .unset, .unset, .unset, .unset, .unset, .unset, .unset, .unset, .unset, .unset]) rfl ?_
        refine XS.iload X0.here hx rfl (hb hby at_70) rfl ?_
        refine XS.bipush X0.here hx rfl (hb hby at_72) ?_
        refine XS.iushr X0.here hx rfl (hb hby at_74) rfl ?_
        refine XS.iconst X0.here hx rfl (hb hby at_75) ?_
        refine XS.iand X0.here hx rfl (hb hby at_76) rfl ?_
        refine XS.istore X0.here hx rfl (hb hby at_77) rfl (l' := #[.val (.int qw), .val (.int qt), .val (.int qv), .val (.int qu), .val (.int qf), .val (.int x101), .val (.int x102), .val (.int x103), .val (.int x104), .val (.int qw), .val (.int qt), .val (.int (((qf.toUInt32 >>> ((6 : Int32) &&& 31).toUInt32).toInt32) &&& (3 : Int32))), .unset, .unset, .unset, .unset, .unset, .unset, .unset, .unset, .unset, .unset, .unset, .unset, .unset, .unset, .unset]) rfl ?_
        exact k)
      obtain ⟨c108, hc108⟩ : ∃ z : Int32, z = ((qw &&& (255 : Int32)).toUInt32.toUInt16.toUInt32.toInt32) := ⟨_, rfl⟩
      have rc_c108 : ¬ c108 < 0 ∧ ¬ (65535 : Int32) < c108 := by rw [hc108]; exact own_i2c_rng _
      have rb_c108 : ¬ c108 < 0 ∧ ¬ (255 : Int32) < c108 := by rw [hc108]; exact own_and255 _
      refine own_to (V := s₁.setTop (mkF m 85 #[.val (.int qw), .val (.int qt), .val (.int qv), .val (.int qu), .val (.int qf), .val (.int x101), .val (.int x102), .val (.int x103), .val (.int x104), .val (.int qw), .val (.int qt), .val (.int x107), .unset, .unset, .unset, .unset, .unset, .unset, .unset, .unset, .unset, .unset, .unset, .unset, .unset, .unset, .unset] [(.int c108)])) ?_ fun t k => (by
        first | rw [hc108] at k | skip
        refine XS.iloadN X0.here hx rfl (hb hby at_79) rfl ?_
        refine XS.sipush X0.here hx rfl (hb hby at_80) ?_
        refine XS.iand X0.here hx rfl (hb hby at_83) rfl ?_
        refine XS.i2c X0.here hx rfl (hb hby at_84) rfl ?_
        exact k)
      obtain ⟨c109, hc109⟩ : ∃ z : Int32, z = ((((qw.toUInt32 >>> ((8 : Int32) &&& 31).toUInt32).toInt32) &&& (255 : Int32)).toUInt32.toUInt16.toUInt32.toInt32) := ⟨_, rfl⟩
      have rc_c109 : ¬ c109 < 0 ∧ ¬ (65535 : Int32) < c109 := by rw [hc109]; exact own_i2c_rng _
      have rb_c109 : ¬ c109 < 0 ∧ ¬ (255 : Int32) < c109 := by rw [hc109]; exact own_and255 _
      refine own_to (V := s₁.setTop (mkF m 96 #[.val (.int qw), .val (.int qt), .val (.int qv), .val (.int qu), .val (.int qf), .val (.int x101), .val (.int x102), .val (.int x103), .val (.int x104), .val (.int qw), .val (.int qt), .val (.int x107), .val (.int c108), .unset, .unset, .unset, .unset, .unset, .unset, .unset, .unset, .unset, .unset, .unset, .unset, .unset, .unset] [(.int c109)])) ?_ fun t k => (by
        first | rw [hc109] at k | skip
        refine XS.istore X0.here hx rfl (hb hby at_85) rfl (l' := #[.val (.int qw), .val (.int qt), .val (.int qv), .val (.int qu), .val (.int qf), .val (.int x101), .val (.int x102), .val (.int x103), .val (.int x104), .val (.int qw), .val (.int qt), .val (.int x107), .val (.int c108), .unset, .unset, .unset, .unset, .unset, .unset, .unset, .unset, .unset, .unset, .unset, .unset, .unset, .unset]) rfl ?_
        refine XS.iloadN X0.here hx rfl (hb hby at_87) rfl ?_
        refine XS.bipush X0.here hx rfl (hb hby at_88) ?_
        refine XS.iushr X0.here hx rfl (hb hby at_90) rfl ?_
        refine XS.sipush X0.here hx rfl (hb hby at_91) ?_
        refine XS.iand X0.here hx rfl (hb hby at_94) rfl ?_
        refine XS.i2c X0.here hx rfl (hb hby at_95) rfl ?_
        exact k)
      obtain ⟨c110, hc110⟩ : ∃ z : Int32, z = ((qt &&& (255 : Int32)).toUInt32.toUInt16.toUInt32.toInt32) := ⟨_, rfl⟩
      have rc_c110 : ¬ c110 < 0 ∧ ¬ (65535 : Int32) < c110 := by rw [hc110]; exact own_i2c_rng _
      have rb_c110 : ¬ c110 < 0 ∧ ¬ (255 : Int32) < c110 := by rw [hc110]; exact own_and255 _
      refine own_to (V := s₁.setTop (mkF m 104 #[.val (.int qw), .val (.int qt), .val (.int qv), .val (.int qu), .val (.int qf), .val (.int x101), .val (.int x102), .val (.int x103), .val (.int x104), .val (.int qw), .val (.int qt), .val (.int x107), .val (.int c108), .val (.int c109), .unset, .unset, .unset, .unset, .unset, .unset, .unset, .unset, .unset, .unset, .unset, .unset, .unset] [(.int c110)])) ?_ fun t k => (by
        first | rw [hc110] at k | skip
        refine XS.istore X0.here hx rfl (hb hby at_96) rfl (l' := #[.val (.int qw), .val (.int qt), .val (.int qv), .val (.int qu), .val (.int qf), .val (.int x101), .val (.int x102), .val (.int x103), .val (.int x104), .val (.int qw), .val (.int qt), .val (.int x107), .val (.int c108), .val (.int c109), .unset, .unset, .unset, .unset, .unset, .unset, .unset, .unset, .unset, .unset, .unset, .unset, .unset]) rfl ?_
        refine XS.iloadN X0.here hx rfl (hb hby at_98) rfl ?_
        refine XS.sipush X0.here hx rfl (hb hby at_99) ?_
        refine XS.iand X0.here hx rfl (hb hby at_102) rfl ?_
        refine XS.i2c X0.here hx rfl (hb hby at_103) rfl ?_
        exact k)
      obtain ⟨c111, hc111⟩ : ∃ z : Int32, z = ((((qt.toUInt32 >>> ((8 : Int32) &&& 31).toUInt32).toInt32) &&& (255 : Int32)).toUInt32.toUInt16.toUInt32.toInt32) := ⟨_, rfl⟩
      have rc_c111 : ¬ c111 < 0 ∧ ¬ (65535 : Int32) < c111 := by rw [hc111]; exact own_i2c_rng _
      have rb_c111 : ¬ c111 < 0 ∧ ¬ (255 : Int32) < c111 := by rw [hc111]; exact own_and255 _
      refine own_to (V := s₁.setTop (mkF m 115 #[.val (.int qw), .val (.int qt), .val (.int qv), .val (.int qu), .val (.int qf), .val (.int x101), .val (.int x102), .val (.int x103), .val (.int x104), .val (.int qw), .val (.int qt), .val (.int x107), .val (.int c108), .val (.int c109), .val (.int c110), .unset, .unset, .unset, .unset, .unset, .unset, .unset, .unset, .unset, .unset, .unset, .unset] [(.int c111)])) ?_ fun t k => (by
        first | rw [hc111] at k | skip
        refine XS.istore X0.here hx rfl (hb hby at_104) rfl (l' := #[.val (.int qw), .val (.int qt), .val (.int qv), .val (.int qu), .val (.int qf), .val (.int x101), .val (.int x102), .val (.int x103), .val (.int x104), .val (.int qw), .val (.int qt), .val (.int x107), .val (.int c108), .val (.int c109), .val (.int c110), .unset, .unset, .unset, .unset, .unset, .unset, .unset, .unset, .unset, .unset, .unset, .unset]) rfl ?_
        refine XS.iloadN X0.here hx rfl (hb hby at_106) rfl ?_
        refine XS.bipush X0.here hx rfl (hb hby at_107) ?_
        refine XS.iushr X0.here hx rfl (hb hby at_109) rfl ?_
        refine XS.sipush X0.here hx rfl (hb hby at_110) ?_
        refine XS.iand X0.here hx rfl (hb hby at_113) rfl ?_
        refine XS.i2c X0.here hx rfl (hb hby at_114) rfl ?_
        exact k)
      obtain ⟨c112, hc112⟩ : ∃ z : Int32, z = ((qw &&& (255 : Int32)).toUInt32.toUInt16.toUInt32.toInt32) := ⟨_, rfl⟩
      refine own_to (V := s₁.setTop (mkF m 124 #[.val (.int qw), .val (.int qt), .val (.int qv), .val (.int qu), .val (.int qf), .val (.int x101), .val (.int x102), .val (.int x103), .val (.int x104), .val (.int qw), .val (.int qt), .val (.int x107), .val (.int c108), .val (.int c109), .val (.int c110), .val (.int c111), .unset, .unset, .unset, .unset, .unset, .unset, .unset, .unset, .unset, .unset, .unset] [(.int c112)])) ?_ fun t k => (by
        first | rw [hc112] at k | skip
        refine XS.istore X0.here hx rfl (hb hby at_115) rfl (l' := #[.val (.int qw), .val (.int qt), .val (.int qv), .val (.int qu), .val (.int qf), .val (.int x101), .val (.int x102), .val (.int x103), .val (.int x104), .val (.int qw), .val (.int qt), .val (.int x107), .val (.int c108), .val (.int c109), .val (.int c110), .val (.int c111), .unset, .unset, .unset, .unset, .unset, .unset, .unset, .unset, .unset, .unset, .unset]) rfl ?_
        refine XS.iload X0.here hx rfl (hb hby at_117) rfl ?_
        refine XS.sipush X0.here hx rfl (hb hby at_119) ?_
        refine XS.iand X0.here hx rfl (hb hby at_122) rfl ?_
        refine XS.i2c X0.here hx rfl (hb hby at_123) rfl ?_
        exact k)
      have hqc112 : c108 = c112 := hc108.trans hc112.symm
      subst hqc112
      obtain ⟨c113, hc113⟩ : ∃ z : Int32, z = ((((qw.toUInt32 >>> ((8 : Int32) &&& 31).toUInt32).toInt32) &&& (255 : Int32)).toUInt32.toUInt16.toUInt32.toInt32) := ⟨_, rfl⟩
      refine own_to (V := s₁.setTop (mkF m 136 #[.val (.int qw), .val (.int qt), .val (.int qv), .val (.int qu), .val (.int qf), .val (.int x101), .val (.int x102), .val (.int x103), .val (.int x104), .val (.int qw), .val (.int qt), .val (.int x107), .val (.int c108), .val (.int c109), .val (.int c110), .val (.int c111), .val (.int c108), .unset, .unset, .unset, .unset, .unset, .unset, .unset, .unset, .unset, .unset] [(.int c113)])) ?_ fun t k => (by
        first | rw [hc113] at k | skip
        refine XS.istore X0.here hx rfl (hb hby at_124) rfl (l' := #[.val (.int qw), .val (.int qt), .val (.int qv), .val (.int qu), .val (.int qf), .val (.int x101), .val (.int x102), .val (.int x103), .val (.int x104), .val (.int qw), .val (.int qt), .val (.int x107), .val (.int c108), .val (.int c109), .val (.int c110), .val (.int c111), .val (.int c108), .unset, .unset, .unset, .unset, .unset, .unset, .unset, .unset, .unset, .unset]) rfl ?_
        refine XS.iload X0.here hx rfl (hb hby at_126) rfl ?_
        refine XS.bipush X0.here hx rfl (hb hby at_128) ?_
        refine XS.iushr X0.here hx rfl (hb hby at_130) rfl ?_
        refine XS.sipush X0.here hx rfl (hb hby at_131) ?_
        refine XS.iand X0.here hx rfl (hb hby at_134) rfl ?_
        refine XS.i2c X0.here hx rfl (hb hby at_135) rfl ?_
        exact k)
      have hqc113 : c109 = c113 := hc109.trans hc113.symm
      subst hqc113
      obtain ⟨c114, hc114⟩ : ∃ z : Int32, z = ((qt &&& (255 : Int32)).toUInt32.toUInt16.toUInt32.toInt32) := ⟨_, rfl⟩
      refine own_to (V := s₁.setTop (mkF m 145 #[.val (.int qw), .val (.int qt), .val (.int qv), .val (.int qu), .val (.int qf), .val (.int x101), .val (.int x102), .val (.int x103), .val (.int x104), .val (.int qw), .val (.int qt), .val (.int x107), .val (.int c108), .val (.int c109), .val (.int c110), .val (.int c111), .val (.int c108), .val (.int c109), .unset, .unset, .unset, .unset, .unset, .unset, .unset, .unset, .unset] [(.int c114)])) ?_ fun t k => (by
        first | rw [hc114] at k | skip
        refine XS.istore X0.here hx rfl (hb hby at_136) rfl (l' := #[.val (.int qw), .val (.int qt), .val (.int qv), .val (.int qu), .val (.int qf), .val (.int x101), .val (.int x102), .val (.int x103), .val (.int x104), .val (.int qw), .val (.int qt), .val (.int x107), .val (.int c108), .val (.int c109), .val (.int c110), .val (.int c111), .val (.int c108), .val (.int c109), .unset, .unset, .unset, .unset, .unset, .unset, .unset, .unset, .unset]) rfl ?_
        refine XS.iload X0.here hx rfl (hb hby at_138) rfl ?_
        refine XS.sipush X0.here hx rfl (hb hby at_140) ?_
        refine XS.iand X0.here hx rfl (hb hby at_143) rfl ?_
        refine XS.i2c X0.here hx rfl (hb hby at_144) rfl ?_
        exact k)
      have hqc114 : c110 = c114 := hc110.trans hc114.symm
      subst hqc114
      obtain ⟨c115, hc115⟩ : ∃ z : Int32, z = ((((qt.toUInt32 >>> ((8 : Int32) &&& 31).toUInt32).toInt32) &&& (255 : Int32)).toUInt32.toUInt16.toUInt32.toInt32) := ⟨_, rfl⟩
      refine own_to (V := s₁.setTop (mkF m 157 #[.val (.int qw), .val (.int qt), .val (.int qv), .val (.int qu), .val (.int qf), .val (.int x101), .val (.int x102), .val (.int x103), .val (.int x104), .val (.int qw), .val (.int qt), .val (.int x107), .val (.int c108), .val (.int c109), .val (.int c110), .val (.int c111), .val (.int c108), .val (.int c109), .val (.int c110), .unset, .unset, .unset, .unset, .unset, .unset, .unset, .unset] [(.int c115)])) ?_ fun t k => (by
        first | rw [hc115] at k | skip
        refine XS.istore X0.here hx rfl (hb hby at_145) rfl (l' := #[.val (.int qw), .val (.int qt), .val (.int qv), .val (.int qu), .val (.int qf), .val (.int x101), .val (.int x102), .val (.int x103), .val (.int x104), .val (.int qw), .val (.int qt), .val (.int x107), .val (.int c108), .val (.int c109), .val (.int c110), .val (.int c111), .val (.int c108), .val (.int c109), .val (.int c110), .unset, .unset, .unset, .unset, .unset, .unset, .unset, .unset]) rfl ?_
        refine XS.iload X0.here hx rfl (hb hby at_147) rfl ?_
        refine XS.bipush X0.here hx rfl (hb hby at_149) ?_
        refine XS.iushr X0.here hx rfl (hb hby at_151) rfl ?_
        refine XS.sipush X0.here hx rfl (hb hby at_152) ?_
        refine XS.iand X0.here hx rfl (hb hby at_155) rfl ?_
        refine XS.i2c X0.here hx rfl (hb hby at_156) rfl ?_
        exact k)
      have hqc115 : c111 = c115 := hc111.trans hc115.symm
      subst hqc115
      refine own_to (V := s₁.setTop (mkF m 159 #[.val (.int qw), .val (.int qt), .val (.int qv), .val (.int qu), .val (.int qf), .val (.int x101), .val (.int x102), .val (.int x103), .val (.int x104), .val (.int qw), .val (.int qt), .val (.int x107), .val (.int c108), .val (.int c109), .val (.int c110), .val (.int c111), .val (.int c108), .val (.int c109), .val (.int c110), .val (.int c111), .unset, .unset, .unset, .unset, .unset, .unset, .unset] [])) ?_ fun t k => (by
        refine XS.istore X0.here hx rfl (hb hby at_157) rfl (l' := #[.val (.int qw), .val (.int qt), .val (.int qv), .val (.int qu), .val (.int qf), .val (.int x101), .val (.int x102), .val (.int x103), .val (.int x104), .val (.int qw), .val (.int qt), .val (.int x107), .val (.int c108), .val (.int c109), .val (.int c110), .val (.int c111), .val (.int c108), .val (.int c109), .val (.int c110), .val (.int c111), .unset, .unset, .unset, .unset, .unset, .unset, .unset]) rfl ?_
        exact k)
      exact own_sglaw1 l Z a0 hw hst qw qt qv qu qf h0 n0 x101 x102 x103 x104 qw qt x107 c108 c109 c110 c111 c108 c109 c110 c111 hx hby hret hlk hml hnm hS0 hZ hown X0 e0 hk0 N0 X00 KK0 rb_c108 rb_c109 rb_c110 rb_c111 rb_c108 rb_c109 rb_c110 rb_c111 (by rw [hx101]; exact own_bit2 _) (by rw [hx102]; exact own_bit2 _) (by rw [hx103]; exact own_bit2 _) (by rw [hx104]; exact own_bit2 _)
    · skip
      obtain ⟨x116, hx116⟩ : ∃ z : Int32, z = (((qf.toUInt32 >>> ((6 : Int32) &&& 31).toUInt32).toInt32) &&& (3 : Int32)) := ⟨_, rfl⟩
      refine own_to (V := s₁.setTop (mkF m 79 #[.val (.int qw), .val (.int qt), .val (.int qv), .val (.int qu), .val (.int qf), .val (.int x101), .val (.int x102), .val (.int x103), .val (.int x104), .val (.int qw), .val (.int qu), .val (.int x116), .unset, .unset, .unset, .unset, .unset, .unset, .unset, .unset, .unset, .unset, .unset, .unset, .unset, .unset, .unset] [])) ?_ fun t k => (by
        first | rw [hx116] at k | skip
        refine XS.ifNo X0.here hx rfl (hb hby at_60) rfl ((if0 _ _).trans (feq (hc60_106 : ¬ ((((qf.toUInt32 >>> ((5 : Int32) &&& 31).toUInt32).toInt32) &&& (1 : Int32)) = (0 : Int32)))).1) ?_
        refine XS.iloadN X0.here hx rfl (hb hby at_63) rfl ?_
        refine XS.goto X0.here hx rfl (pc0 := 64) (pc' := 68) rfl (hb hby at_64) (by decide) (by decide) ?_
        refine XS.istore X0.here hx rfl (hb hby at_68) rfl (l' := #[.val (.int qw), .val (.int qt), .val (.int qv), .val (.int qu), .val (.int qf), .val (.int x101), .val (.int x102), .val (.int x103), .val (.int x104), .val (.int qw), .val (.int qu), .unset, .unset, .unset, .unset, .unset, .unset, .unset, .unset, .unset, .unset, .unset, .unset, .unset, .unset, .unset, .unset]) rfl ?_
        refine XS.iload X0.here hx rfl (hb hby at_70) rfl ?_
        refine XS.bipush X0.here hx rfl (hb hby at_72) ?_
        refine XS.iushr X0.here hx rfl (hb hby at_74) rfl ?_
        refine XS.iconst X0.here hx rfl (hb hby at_75) ?_
        refine XS.iand X0.here hx rfl (hb hby at_76) rfl ?_
        refine XS.istore X0.here hx rfl (hb hby at_77) rfl (l' := #[.val (.int qw), .val (.int qt), .val (.int qv), .val (.int qu), .val (.int qf), .val (.int x101), .val (.int x102), .val (.int x103), .val (.int x104), .val (.int qw), .val (.int qu), .val (.int (((qf.toUInt32 >>> ((6 : Int32) &&& 31).toUInt32).toInt32) &&& (3 : Int32))), .unset, .unset, .unset, .unset, .unset, .unset, .unset, .unset, .unset, .unset, .unset, .unset, .unset, .unset, .unset]) rfl ?_
        exact k)
      obtain ⟨c117, hc117⟩ : ∃ z : Int32, z = ((qw &&& (255 : Int32)).toUInt32.toUInt16.toUInt32.toInt32) := ⟨_, rfl⟩
      have rc_c117 : ¬ c117 < 0 ∧ ¬ (65535 : Int32) < c117 := by rw [hc117]; exact own_i2c_rng _
      have rb_c117 : ¬ c117 < 0 ∧ ¬ (255 : Int32) < c117 := by rw [hc117]; exact own_and255 _
      refine own_to (V := s₁.setTop (mkF m 85 #[.val (.int qw), .val (.int qt), .val (.int qv), .val (.int qu), .val (.int qf), .val (.int x101), .val (.int x102), .val (.int x103), .val (.int x104), .val (.int qw), .val (.int qu), .val (.int x116), .unset, .unset, .unset, .unset, .unset, .unset, .unset, .unset, .unset, .unset, .unset, .unset, .unset, .unset, .unset] [(.int c117)])) ?_ fun t k => (by
        first | rw [hc117] at k | skip
        refine XS.iloadN X0.here hx rfl (hb hby at_79) rfl ?_
        refine XS.sipush X0.here hx rfl (hb hby at_80) ?_
        refine XS.iand X0.here hx rfl (hb hby at_83) rfl ?_
        refine XS.i2c X0.here hx rfl (hb hby at_84) rfl ?_
        exact k)
      obtain ⟨c118, hc118⟩ : ∃ z : Int32, z = ((((qw.toUInt32 >>> ((8 : Int32) &&& 31).toUInt32).toInt32) &&& (255 : Int32)).toUInt32.toUInt16.toUInt32.toInt32) := ⟨_, rfl⟩
      have rc_c118 : ¬ c118 < 0 ∧ ¬ (65535 : Int32) < c118 := by rw [hc118]; exact own_i2c_rng _
      have rb_c118 : ¬ c118 < 0 ∧ ¬ (255 : Int32) < c118 := by rw [hc118]; exact own_and255 _
      refine own_to (V := s₁.setTop (mkF m 96 #[.val (.int qw), .val (.int qt), .val (.int qv), .val (.int qu), .val (.int qf), .val (.int x101), .val (.int x102), .val (.int x103), .val (.int x104), .val (.int qw), .val (.int qu), .val (.int x116), .val (.int c117), .unset, .unset, .unset, .unset, .unset, .unset, .unset, .unset, .unset, .unset, .unset, .unset, .unset, .unset] [(.int c118)])) ?_ fun t k => (by
        first | rw [hc118] at k | skip
        refine XS.istore X0.here hx rfl (hb hby at_85) rfl (l' := #[.val (.int qw), .val (.int qt), .val (.int qv), .val (.int qu), .val (.int qf), .val (.int x101), .val (.int x102), .val (.int x103), .val (.int x104), .val (.int qw), .val (.int qu), .val (.int x116), .val (.int c117), .unset, .unset, .unset, .unset, .unset, .unset, .unset, .unset, .unset, .unset, .unset, .unset, .unset, .unset]) rfl ?_
        refine XS.iloadN X0.here hx rfl (hb hby at_87) rfl ?_
        refine XS.bipush X0.here hx rfl (hb hby at_88) ?_
        refine XS.iushr X0.here hx rfl (hb hby at_90) rfl ?_
        refine XS.sipush X0.here hx rfl (hb hby at_91) ?_
        refine XS.iand X0.here hx rfl (hb hby at_94) rfl ?_
        refine XS.i2c X0.here hx rfl (hb hby at_95) rfl ?_
        exact k)
      obtain ⟨c119, hc119⟩ : ∃ z : Int32, z = ((qt &&& (255 : Int32)).toUInt32.toUInt16.toUInt32.toInt32) := ⟨_, rfl⟩
      have rc_c119 : ¬ c119 < 0 ∧ ¬ (65535 : Int32) < c119 := by rw [hc119]; exact own_i2c_rng _
      have rb_c119 : ¬ c119 < 0 ∧ ¬ (255 : Int32) < c119 := by rw [hc119]; exact own_and255 _
      refine own_to (V := s₁.setTop (mkF m 104 #[.val (.int qw), .val (.int qt), .val (.int qv), .val (.int qu), .val (.int qf), .val (.int x101), .val (.int x102), .val (.int x103), .val (.int x104), .val (.int qw), .val (.int qu), .val (.int x116), .val (.int c117), .val (.int c118), .unset, .unset, .unset, .unset, .unset, .unset, .unset, .unset, .unset, .unset, .unset, .unset, .unset] [(.int c119)])) ?_ fun t k => (by
        first | rw [hc119] at k | skip
        refine XS.istore X0.here hx rfl (hb hby at_96) rfl (l' := #[.val (.int qw), .val (.int qt), .val (.int qv), .val (.int qu), .val (.int qf), .val (.int x101), .val (.int x102), .val (.int x103), .val (.int x104), .val (.int qw), .val (.int qu), .val (.int x116), .val (.int c117), .val (.int c118), .unset, .unset, .unset, .unset, .unset, .unset, .unset, .unset, .unset, .unset, .unset, .unset, .unset]) rfl ?_
        refine XS.iloadN X0.here hx rfl (hb hby at_98) rfl ?_
        refine XS.sipush X0.here hx rfl (hb hby at_99) ?_
        refine XS.iand X0.here hx rfl (hb hby at_102) rfl ?_
        refine XS.i2c X0.here hx rfl (hb hby at_103) rfl ?_
        exact k)
      obtain ⟨c120, hc120⟩ : ∃ z : Int32, z = ((((qt.toUInt32 >>> ((8 : Int32) &&& 31).toUInt32).toInt32) &&& (255 : Int32)).toUInt32.toUInt16.toUInt32.toInt32) := ⟨_, rfl⟩
      have rc_c120 : ¬ c120 < 0 ∧ ¬ (65535 : Int32) < c120 := by rw [hc120]; exact own_i2c_rng _
      have rb_c120 : ¬ c120 < 0 ∧ ¬ (255 : Int32) < c120 := by rw [hc120]; exact own_and255 _
      refine own_to (V := s₁.setTop (mkF m 115 #[.val (.int qw), .val (.int qt), .val (.int qv), .val (.int qu), .val (.int qf), .val (.int x101), .val (.int x102), .val (.int x103), .val (.int x104), .val (.int qw), .val (.int qu), .val (.int x116), .val (.int c117), .val (.int c118), .val (.int c119), .unset, .unset, .unset, .unset, .unset, .unset, .unset, .unset, .unset, .unset, .unset, .unset] [(.int c120)])) ?_ fun t k => (by
        first | rw [hc120] at k | skip
        refine XS.istore X0.here hx rfl (hb hby at_104) rfl (l' := #[.val (.int qw), .val (.int qt), .val (.int qv), .val (.int qu), .val (.int qf), .val (.int x101), .val (.int x102), .val (.int x103), .val (.int x104), .val (.int qw), .val (.int qu), .val (.int x116), .val (.int c117), .val (.int c118), .val (.int c119), .unset, .unset, .unset, .unset, .unset, .unset, .unset, .unset, .unset, .unset, .unset, .unset]) rfl ?_
        refine XS.iloadN X0.here hx rfl (hb hby at_106) rfl ?_
        refine XS.bipush X0.here hx rfl (hb hby at_107) ?_
        refine XS.iushr X0.here hx rfl (hb hby at_109) rfl ?_
        refine XS.sipush X0.here hx rfl (hb hby at_110) ?_
        refine XS.iand X0.here hx rfl (hb hby at_113) rfl ?_
        refine XS.i2c X0.here hx rfl (hb hby at_114) rfl ?_
        exact k)
      obtain ⟨c121, hc121⟩ : ∃ z : Int32, z = ((qw &&& (255 : Int32)).toUInt32.toUInt16.toUInt32.toInt32) := ⟨_, rfl⟩
      refine own_to (V := s₁.setTop (mkF m 124 #[.val (.int qw), .val (.int qt), .val (.int qv), .val (.int qu), .val (.int qf), .val (.int x101), .val (.int x102), .val (.int x103), .val (.int x104), .val (.int qw), .val (.int qu), .val (.int x116), .val (.int c117), .val (.int c118), .val (.int c119), .val (.int c120), .unset, .unset, .unset, .unset, .unset, .unset, .unset, .unset, .unset, .unset, .unset] [(.int c121)])) ?_ fun t k => (by
        first | rw [hc121] at k | skip
        refine XS.istore X0.here hx rfl (hb hby at_115) rfl (l' := #[.val (.int qw), .val (.int qt), .val (.int qv), .val (.int qu), .val (.int qf), .val (.int x101), .val (.int x102), .val (.int x103), .val (.int x104), .val (.int qw), .val (.int qu), .val (.int x116), .val (.int c117), .val (.int c118), .val (.int c119), .val (.int c120), .unset, .unset, .unset, .unset, .unset, .unset, .unset, .unset, .unset, .unset, .unset]) rfl ?_
        refine XS.iload X0.here hx rfl (hb hby at_117) rfl ?_
        refine XS.sipush X0.here hx rfl (hb hby at_119) ?_
        refine XS.iand X0.here hx rfl (hb hby at_122) rfl ?_
        refine XS.i2c X0.here hx rfl (hb hby at_123) rfl ?_
        exact k)
      have hqc121 : c117 = c121 := hc117.trans hc121.symm
      subst hqc121
      obtain ⟨c122, hc122⟩ : ∃ z : Int32, z = ((((qw.toUInt32 >>> ((8 : Int32) &&& 31).toUInt32).toInt32) &&& (255 : Int32)).toUInt32.toUInt16.toUInt32.toInt32) := ⟨_, rfl⟩
      refine own_to (V := s₁.setTop (mkF m 136 #[.val (.int qw), .val (.int qt), .val (.int qv), .val (.int qu), .val (.int qf), .val (.int x101), .val (.int x102), .val (.int x103), .val (.int x104), .val (.int qw), .val (.int qu), .val (.int x116), .val (.int c117), .val (.int c118), .val (.int c119), .val (.int c120), .val (.int c117), .unset, .unset, .unset, .unset, .unset, .unset, .unset, .unset, .unset, .unset] [(.int c122)])) ?_ fun t k => (by
        first | rw [hc122] at k | skip
        refine XS.istore X0.here hx rfl (hb hby at_124) rfl (l' := #[.val (.int qw), .val (.int qt), .val (.int qv), .val (.int qu), .val (.int qf), .val (.int x101), .val (.int x102), .val (.int x103), .val (.int x104), .val (.int qw), .val (.int qu), .val (.int x116), .val (.int c117), .val (.int c118), .val (.int c119), .val (.int c120), .val (.int c117), .unset, .unset, .unset, .unset, .unset, .unset, .unset, .unset, .unset, .unset]) rfl ?_
        refine XS.iload X0.here hx rfl (hb hby at_126) rfl ?_
        refine XS.bipush X0.here hx rfl (hb hby at_128) ?_
        refine XS.iushr X0.here hx rfl (hb hby at_130) rfl ?_
        refine XS.sipush X0.here hx rfl (hb hby at_131) ?_
        refine XS.iand X0.here hx rfl (hb hby at_134) rfl ?_
        refine XS.i2c X0.here hx rfl (hb hby at_135) rfl ?_
        exact k)
      have hqc122 : c118 = c122 := hc118.trans hc122.symm
      subst hqc122
      obtain ⟨c123, hc123⟩ : ∃ z : Int32, z = ((qu &&& (255 : Int32)).toUInt32.toUInt16.toUInt32.toInt32) := ⟨_, rfl⟩
      have rc_c123 : ¬ c123 < 0 ∧ ¬ (65535 : Int32) < c123 := by rw [hc123]; exact own_i2c_rng _
      have rb_c123 : ¬ c123 < 0 ∧ ¬ (255 : Int32) < c123 := by rw [hc123]; exact own_and255 _
      refine own_to (V := s₁.setTop (mkF m 145 #[.val (.int qw), .val (.int qt), .val (.int qv), .val (.int qu), .val (.int qf), .val (.int x101), .val (.int x102), .val (.int x103), .val (.int x104), .val (.int qw), .val (.int qu), .val (.int x116), .val (.int c117), .val (.int c118), .val (.int c119), .val (.int c120), .val (.int c117), .val (.int c118), .unset, .unset, .unset, .unset, .unset, .unset, .unset, .unset, .unset] [(.int c123)])) ?_ fun t k => (by
        first | rw [hc123] at k | skip
        refine XS.istore X0.here hx rfl (hb hby at_136) rfl (l' := #[.val (.int qw), .val (.int qt), .val (.int qv), .val (.int qu), .val (.int qf), .val (.int x101), .val (.int x102), .val (.int x103), .val (.int x104), .val (.int qw), .val (.int qu), .val (.int x116), .val (.int c117), .val (.int c118), .val (.int c119), .val (.int c120), .val (.int c117), .val (.int c118), .unset, .unset, .unset, .unset, .unset, .unset, .unset, .unset, .unset]) rfl ?_
        refine XS.iload X0.here hx rfl (hb hby at_138) rfl ?_
        refine XS.sipush X0.here hx rfl (hb hby at_140) ?_
        refine XS.iand X0.here hx rfl (hb hby at_143) rfl ?_
        refine XS.i2c X0.here hx rfl (hb hby at_144) rfl ?_
        exact k)
      obtain ⟨c124, hc124⟩ : ∃ z : Int32, z = ((((qu.toUInt32 >>> ((8 : Int32) &&& 31).toUInt32).toInt32) &&& (255 : Int32)).toUInt32.toUInt16.toUInt32.toInt32) := ⟨_, rfl⟩
      have rc_c124 : ¬ c124 < 0 ∧ ¬ (65535 : Int32) < c124 := by rw [hc124]; exact own_i2c_rng _
      have rb_c124 : ¬ c124 < 0 ∧ ¬ (255 : Int32) < c124 := by rw [hc124]; exact own_and255 _
      refine own_to (V := s₁.setTop (mkF m 157 #[.val (.int qw), .val (.int qt), .val (.int qv), .val (.int qu), .val (.int qf), .val (.int x101), .val (.int x102), .val (.int x103), .val (.int x104), .val (.int qw), .val (.int qu), .val (.int x116), .val (.int c117), .val (.int c118), .val (.int c119), .val (.int c120), .val (.int c117), .val (.int c118), .val (.int c123), .unset, .unset, .unset, .unset, .unset, .unset, .unset, .unset] [(.int c124)])) ?_ fun t k => (by
        first | rw [hc124] at k | skip
        refine XS.istore X0.here hx rfl (hb hby at_145) rfl (l' := #[.val (.int qw), .val (.int qt), .val (.int qv), .val (.int qu), .val (.int qf), .val (.int x101), .val (.int x102), .val (.int x103), .val (.int x104), .val (.int qw), .val (.int qu), .val (.int x116), .val (.int c117), .val (.int c118), .val (.int c119), .val (.int c120), .val (.int c117), .val (.int c118), .val (.int c123), .unset, .unset, .unset, .unset, .unset, .unset, .unset, .unset]) rfl ?_
        refine XS.iload X0.here hx rfl (hb hby at_147) rfl ?_
        refine XS.bipush X0.here hx rfl (hb hby at_149) ?_
        refine XS.iushr X0.here hx rfl (hb hby at_151) rfl ?_
        refine XS.sipush X0.here hx rfl (hb hby at_152) ?_
        refine XS.iand X0.here hx rfl (hb hby at_155) rfl ?_
        refine XS.i2c X0.here hx rfl (hb hby at_156) rfl ?_
        exact k)
      refine own_to (V := s₁.setTop (mkF m 159 #[.val (.int qw), .val (.int qt), .val (.int qv), .val (.int qu), .val (.int qf), .val (.int x101), .val (.int x102), .val (.int x103), .val (.int x104), .val (.int qw), .val (.int qu), .val (.int x116), .val (.int c117), .val (.int c118), .val (.int c119), .val (.int c120), .val (.int c117), .val (.int c118), .val (.int c123), .val (.int c124), .unset, .unset, .unset, .unset, .unset, .unset, .unset] [])) ?_ fun t k => (by
        refine XS.istore X0.here hx rfl (hb hby at_157) rfl (l' := #[.val (.int qw), .val (.int qt), .val (.int qv), .val (.int qu), .val (.int qf), .val (.int x101), .val (.int x102), .val (.int x103), .val (.int x104), .val (.int qw), .val (.int qu), .val (.int x116), .val (.int c117), .val (.int c118), .val (.int c119), .val (.int c120), .val (.int c117), .val (.int c118), .val (.int c123), .val (.int c124), .unset, .unset, .unset, .unset, .unset, .unset, .unset]) rfl ?_
        exact k)
      exact own_sglaw1 l Z a0 hw hst qw qt qv qu qf h0 n0 x101 x102 x103 x104 qw qu x116 c117 c118 c119 c120 c117 c118 c123 c124 hx hby hret hlk hml hnm hS0 hZ hown X0 e0 hk0 N0 X00 KK0 rb_c117 rb_c118 rb_c119 rb_c120 rb_c117 rb_c118 rb_c123 rb_c124 (by rw [hx101]; exact own_bit2 _) (by rw [hx102]; exact own_bit2 _) (by rw [hx103]; exact own_bit2 _) (by rw [hx104]; exact own_bit2 _)
  · skip
    refine own_to (V := s₁.setTop (mkF m 60 #[.val (.int qw), .val (.int qt), .val (.int qv), .val (.int qu), .val (.int qf), .val (.int x101), .val (.int x102), .val (.int x103), .val (.int x104), .val (.int qv), .unset, .unset, .unset, .unset, .unset, .unset, .unset, .unset, .unset, .unset, .unset, .unset, .unset, .unset, .unset, .unset, .unset] [(.int (((qf.toUInt32 >>> ((5 : Int32) &&& 31).toUInt32).toInt32) &&& (1 : Int32)))])) ?_ fun t k => (by
      refine XS.ifNo X0.here hx rfl (hb hby at_44) rfl ((if0 _ _).trans (feq (hc44_105 : ¬ ((((qf.toUInt32 >>> ((4 : Int32) &&& 31).toUInt32).toInt32) &&& (1 : Int32)) = (0 : Int32)))).1) ?_
      refine XS.iloadN X0.here hx rfl (hb hby at_47) rfl ?_
      refine XS.goto X0.here hx rfl (pc0 := 48) (pc' := 52) rfl (hb hby at_48) (by decide) (by decide) ?_
      refine XS.istore X0.here hx rfl (hb hby at_52) rfl (l' := #[.val (.int qw), .val (.int qt), .val (.int qv), .val (.int qu), .val (.int qf), .val (.int x101), .val (.int x102), .val (.int x103), .val (.int x104), .val (.int qv), .unset, .unset, .unset, .unset, .unset, .unset, .unset, .unset, .unset, .unset, .unset, .unset, .unset, .unset, .unset, .unset, .unset]) rfl ?_
      refine XS.iload X0.here hx rfl (hb hby at_54) rfl ?_
      refine XS.iconst X0.here hx rfl (hb hby at_56) ?_
      refine XS.iushr X0.here hx rfl (hb hby at_57) rfl ?_
      refine XS.iconst X0.here hx rfl (hb hby at_58) ?_
      refine XS.iand X0.here hx rfl (hb hby at_59) rfl ?_
      exact k)
    by_cases hc60_125 : (((qf.toUInt32 >>> ((5 : Int32) &&& 31).toUInt32).toInt32) &&& (1 : Int32)) = (0 : Int32)
    · skip
      obtain ⟨x126, hx126⟩ : ∃ z : Int32, z = (((qf.toUInt32 >>> ((6 : Int32) &&& 31).toUInt32).toInt32) &&& (3 : Int32)) := ⟨_, rfl⟩
      refine own_to (V := s₁.setTop (mkF m 79 #[.val (.int qw), .val (.int qt), .val (.int qv), .val (.int qu), .val (.int qf), .val (.int x101), .val (.int x102), .val (.int x103), .val (.int x104), .val (.int qv), .val (.int qt), .val (.int x126), .unset, .unset, .unset, .unset, .unset, .unset, .unset, .unset, .unset, .unset, .unset, .unset, .unset, .unset, .unset] [])) ?_ fun t k => (by
        first | rw [hx126] at k | skip
        refine XS.ifYes X0.here hx rfl (pc0 := 60) (pc' := 67) rfl (hb hby at_60) rfl ((if0 _ _).trans (teq (hc60_125 : (((qf.toUInt32 >>> ((5 : Int32) &&& 31).toUInt32).toInt32) &&& (1 : Int32)) = (0 : Int32))).1) (by decide) (by decide) ?_
        refine XS.iloadN X0.here hx rfl (hb hby at_67) rfl ?_
        refine XS.istore X0.here hx rfl (hb hby at_68) rfl (l' := #[.val (.int qw), .val (.int qt), .val (.int qv), .val (.int qu), .val (.int qf), .val (.int x101), .val (.int x102), .val (.int x103), .val (.int x104), .val (.int qv), .val (.int qt), .unset, .unset, .unset, .unset, .unset, .unset, .unset, .unset, .unset, .unset, .unset, .unset, .unset, .unset, .unset, .unset]) rfl ?_
        refine XS.iload X0.here hx rfl (hb hby at_70) rfl ?_
        refine XS.bipush X0.here hx rfl (hb hby at_72) ?_
        refine XS.iushr X0.here hx rfl (hb hby at_74) rfl ?_
        refine XS.iconst X0.here hx rfl (hb hby at_75) ?_
        refine XS.iand X0.here hx rfl (hb hby at_76) rfl ?_
        refine XS.istore X0.here hx rfl (hb hby at_77) rfl (l' := #[.val (.int qw), .val (.int qt), .val (.int qv), .val (.int qu), .val (.int qf), .val (.int x101), .val (.int x102), .val (.int x103), .val (.int x104), .val (.int qv), .val (.int qt), .val (.int (((qf.toUInt32 >>> ((6 : Int32) &&& 31).toUInt32).toInt32) &&& (3 : Int32))), .unset, .unset, .unset, .unset, .unset, .unset, .unset, .unset, .unset, .unset, .unset, .unset, .unset, .unset, .unset]) rfl ?_
        exact k)
      obtain ⟨c127, hc127⟩ : ∃ z : Int32, z = ((qw &&& (255 : Int32)).toUInt32.toUInt16.toUInt32.toInt32) := ⟨_, rfl⟩
      have rc_c127 : ¬ c127 < 0 ∧ ¬ (65535 : Int32) < c127 := by rw [hc127]; exact own_i2c_rng _
      have rb_c127 : ¬ c127 < 0 ∧ ¬ (255 : Int32) < c127 := by rw [hc127]; exact own_and255 _
      refine own_to (V := s₁.setTop (mkF m 85 #[.val (.int qw), .val (.int qt), .val (.int qv), .val (.int qu), .val (.int qf), .val (.int x101), .val (.int x102), .val (.int x103), .val (.int x104), .val (.int qv), .val (.int qt), .val (.int x126), .unset, .unset, .unset, .unset, .unset, .unset, .unset, .unset, .unset, .unset, .unset, .unset, .unset, .unset, .unset] [(.int c127)])) ?_ fun t k => (by
        first | rw [hc127] at k | skip
        refine XS.iloadN X0.here hx rfl (hb hby at_79) rfl ?_
        refine XS.sipush X0.here hx rfl (hb hby at_80) ?_
        refine XS.iand X0.here hx rfl (hb hby at_83) rfl ?_
        refine XS.i2c X0.here hx rfl (hb hby at_84) rfl ?_
        exact k)
      obtain ⟨c128, hc128⟩ : ∃ z : Int32, z = ((((qw.toUInt32 >>> ((8 : Int32) &&& 31).toUInt32).toInt32) &&& (255 : Int32)).toUInt32.toUInt16.toUInt32.toInt32) := ⟨_, rfl⟩
      have rc_c128 : ¬ c128 < 0 ∧ ¬ (65535 : Int32) < c128 := by rw [hc128]; exact own_i2c_rng _
      have rb_c128 : ¬ c128 < 0 ∧ ¬ (255 : Int32) < c128 := by rw [hc128]; exact own_and255 _
      refine own_to (V := s₁.setTop (mkF m 96 #[.val (.int qw), .val (.int qt), .val (.int qv), .val (.int qu), .val (.int qf), .val (.int x101), .val (.int x102), .val (.int x103), .val (.int x104), .val (.int qv), .val (.int qt), .val (.int x126), .val (.int c127), .unset, .unset, .unset, .unset, .unset, .unset, .unset, .unset, .unset, .unset, .unset, .unset, .unset, .unset] [(.int c128)])) ?_ fun t k => (by
        first | rw [hc128] at k | skip
        refine XS.istore X0.here hx rfl (hb hby at_85) rfl (l' := #[.val (.int qw), .val (.int qt), .val (.int qv), .val (.int qu), .val (.int qf), .val (.int x101), .val (.int x102), .val (.int x103), .val (.int x104), .val (.int qv), .val (.int qt), .val (.int x126), .val (.int c127), .unset, .unset, .unset, .unset, .unset, .unset, .unset, .unset, .unset, .unset, .unset, .unset, .unset, .unset]) rfl ?_
        refine XS.iloadN X0.here hx rfl (hb hby at_87) rfl ?_
        refine XS.bipush X0.here hx rfl (hb hby at_88) ?_
        refine XS.iushr X0.here hx rfl (hb hby at_90) rfl ?_
        refine XS.sipush X0.here hx rfl (hb hby at_91) ?_
        refine XS.iand X0.here hx rfl (hb hby at_94) rfl ?_
        refine XS.i2c X0.here hx rfl (hb hby at_95) rfl ?_
        exact k)
      obtain ⟨c129, hc129⟩ : ∃ z : Int32, z = ((qt &&& (255 : Int32)).toUInt32.toUInt16.toUInt32.toInt32) := ⟨_, rfl⟩
      have rc_c129 : ¬ c129 < 0 ∧ ¬ (65535 : Int32) < c129 := by rw [hc129]; exact own_i2c_rng _
      have rb_c129 : ¬ c129 < 0 ∧ ¬ (255 : Int32) < c129 := by rw [hc129]; exact own_and255 _
      refine own_to (V := s₁.setTop (mkF m 104 #[.val (.int qw), .val (.int qt), .val (.int qv), .val (.int qu), .val (.int qf), .val (.int x101), .val (.int x102), .val (.int x103), .val (.int x104), .val (.int qv), .val (.int qt), .val (.int x126), .val (.int c127), .val (.int c128), .unset, .unset, .unset, .unset, .unset, .unset, .unset, .unset, .unset, .unset, .unset, .unset, .unset] [(.int c129)])) ?_ fun t k => (by
        first | rw [hc129] at k | skip
        refine XS.istore X0.here hx rfl (hb hby at_96) rfl (l' := #[.val (.int qw), .val (.int qt), .val (.int qv), .val (.int qu), .val (.int qf), .val (.int x101), .val (.int x102), .val (.int x103), .val (.int x104), .val (.int qv), .val (.int qt), .val (.int x126), .val (.int c127), .val (.int c128), .unset, .unset, .unset, .unset, .unset, .unset, .unset, .unset, .unset, .unset, .unset, .unset, .unset]) rfl ?_
        refine XS.iloadN X0.here hx rfl (hb hby at_98) rfl ?_
        refine XS.sipush X0.here hx rfl (hb hby at_99) ?_
        refine XS.iand X0.here hx rfl (hb hby at_102) rfl ?_
        refine XS.i2c X0.here hx rfl (hb hby at_103) rfl ?_
        exact k)
      obtain ⟨c130, hc130⟩ : ∃ z : Int32, z = ((((qt.toUInt32 >>> ((8 : Int32) &&& 31).toUInt32).toInt32) &&& (255 : Int32)).toUInt32.toUInt16.toUInt32.toInt32) := ⟨_, rfl⟩
      have rc_c130 : ¬ c130 < 0 ∧ ¬ (65535 : Int32) < c130 := by rw [hc130]; exact own_i2c_rng _
      have rb_c130 : ¬ c130 < 0 ∧ ¬ (255 : Int32) < c130 := by rw [hc130]; exact own_and255 _
      refine own_to (V := s₁.setTop (mkF m 115 #[.val (.int qw), .val (.int qt), .val (.int qv), .val (.int qu), .val (.int qf), .val (.int x101), .val (.int x102), .val (.int x103), .val (.int x104), .val (.int qv), .val (.int qt), .val (.int x126), .val (.int c127), .val (.int c128), .val (.int c129), .unset, .unset, .unset, .unset, .unset, .unset, .unset, .unset, .unset, .unset, .unset, .unset] [(.int c130)])) ?_ fun t k => (by
        first | rw [hc130] at k | skip
        refine XS.istore X0.here hx rfl (hb hby at_104) rfl (l' := #[.val (.int qw), .val (.int qt), .val (.int qv), .val (.int qu), .val (.int qf), .val (.int x101), .val (.int x102), .val (.int x103), .val (.int x104), .val (.int qv), .val (.int qt), .val (.int x126), .val (.int c127), .val (.int c128), .val (.int c129), .unset, .unset, .unset, .unset, .unset, .unset, .unset, .unset, .unset, .unset, .unset, .unset]) rfl ?_
        refine XS.iloadN X0.here hx rfl (hb hby at_106) rfl ?_
        refine XS.bipush X0.here hx rfl (hb hby at_107) ?_
        refine XS.iushr X0.here hx rfl (hb hby at_109) rfl ?_
        refine XS.sipush X0.here hx rfl (hb hby at_110) ?_
        refine XS.iand X0.here hx rfl (hb hby at_113) rfl ?_
        refine XS.i2c X0.here hx rfl (hb hby at_114) rfl ?_
        exact k)
      obtain ⟨c131, hc131⟩ : ∃ z : Int32, z = ((qv &&& (255 : Int32)).toUInt32.toUInt16.toUInt32.toInt32) := ⟨_, rfl⟩
      have rc_c131 : ¬ c131 < 0 ∧ ¬ (65535 : Int32) < c131 := by rw [hc131]; exact own_i2c_rng _
      have rb_c131 : ¬ c131 < 0 ∧ ¬ (255 : Int32) < c131 := by rw [hc131]; exact own_and255 _
      refine own_to (V := s₁.setTop (mkF m 124 #[.val (.int qw), .val (.int qt), .val (.int qv), .val (.int qu), .val (.int qf), .val (.int x101), .val (.int x102), .val (.int x103), .val (.int x104), .val (.int qv), .val (.int qt), .val (.int x126), .val (.int c127), .val (.int c128), .val (.int c129), .val (.int c130), .unset, .unset, .unset, .unset, .unset, .unset, .unset, .unset, .unset, .unset, .unset] [(.int c131)])) ?_ fun t k => (by
        first | rw [hc131] at k | skip
        refine XS.istore X0.here hx rfl (hb hby at_115) rfl (l' := #[.val (.int qw), .val (.int qt), .val (.int qv), .val (.int qu), .val (.int qf), .val (.int x101), .val (.int x102), .val (.int x103), .val (.int x104), .val (.int qv), .val (.int qt), .val (.int x126), .val (.int c127), .val (.int c128), .val (.int c129), .val (.int c130), .unset, .unset, .unset, .unset, .unset, .unset, .unset, .unset, .unset, .unset, .unset]) rfl ?_
        refine XS.iload X0.here hx rfl (hb hby at_117) rfl ?_
        refine XS.sipush X0.here hx rfl (hb hby at_119) ?_
        refine XS.iand X0.here hx rfl (hb hby at_122) rfl ?_
        refine XS.i2c X0.here hx rfl (hb hby at_123) rfl ?_
        exact k)
      obtain ⟨c132, hc132⟩ : ∃ z : Int32, z = ((((qv.toUInt32 >>> ((8 : Int32) &&& 31).toUInt32).toInt32) &&& (255 : Int32)).toUInt32.toUInt16.toUInt32.toInt32) := ⟨_, rfl⟩
      have rc_c132 : ¬ c132 < 0 ∧ ¬ (65535 : Int32) < c132 := by rw [hc132]; exact own_i2c_rng _
      have rb_c132 : ¬ c132 < 0 ∧ ¬ (255 : Int32) < c132 := by rw [hc132]; exact own_and255 _
      refine own_to (V := s₁.setTop (mkF m 136 #[.val (.int qw), .val (.int qt), .val (.int qv), .val (.int qu), .val (.int qf), .val (.int x101), .val (.int x102), .val (.int x103), .val (.int x104), .val (.int qv), .val (.int qt), .val (.int x126), .val (.int c127), .val (.int c128), .val (.int c129), .val (.int c130), .val (.int c131), .unset, .unset, .unset, .unset, .unset, .unset, .unset, .unset, .unset, .unset] [(.int c132)])) ?_ fun t k => (by
        first | rw [hc132] at k | skip
        refine XS.istore X0.here hx rfl (hb hby at_124) rfl (l' := #[.val (.int qw), .val (.int qt), .val (.int qv), .val (.int qu), .val (.int qf), .val (.int x101), .val (.int x102), .val (.int x103), .val (.int x104), .val (.int qv), .val (.int qt), .val (.int x126), .val (.int c127), .val (.int c128), .val (.int c129), .val (.int c130), .val (.int c131), .unset, .unset, .unset, .unset, .unset, .unset, .unset, .unset, .unset, .unset]) rfl ?_
        refine XS.iload X0.here hx rfl (hb hby at_126) rfl ?_
        refine XS.bipush X0.here hx rfl (hb hby at_128) ?_
        refine XS.iushr X0.here hx rfl (hb hby at_130) rfl ?_
        refine XS.sipush X0.here hx rfl (hb hby at_131) ?_
        refine XS.iand X0.here hx rfl (hb hby at_134) rfl ?_
        refine XS.i2c X0.here hx rfl (hb hby at_135) rfl ?_
        exact k)
      obtain ⟨c133, hc133⟩ : ∃ z : Int32, z = ((qt &&& (255 : Int32)).toUInt32.toUInt16.toUInt32.toInt32) := ⟨_, rfl⟩
      refine own_to (V := s₁.setTop (mkF m 145 #[.val (.int qw), .val (.int qt), .val (.int qv), .val (.int qu), .val (.int qf), .val (.int x101), .val (.int x102), .val (.int x103), .val (.int x104), .val (.int qv), .val (.int qt), .val (.int x126), .val (.int c127), .val (.int c128), .val (.int c129), .val (.int c130), .val (.int c131), .val (.int c132), .unset, .unset, .unset, .unset, .unset, .unset, .unset, .unset, .unset] [(.int c133)])) ?_ fun t k => (by
        first | rw [hc133] at k | skip
        refine XS.istore X0.here hx rfl (hb hby at_136) rfl (l' := #[.val (.int qw), .val (.int qt), .val (.int qv), .val (.int qu), .val (.int qf), .val (.int x101), .val (.int x102), .val (.int x103), .val (.int x104), .val (.int qv), .val (.int qt), .val (.int x126), .val (.int c127), .val (.int c128), .val (.int c129), .val (.int c130), .val (.int c131), .val (.int c132), .unset, .unset, .unset, .unset, .unset, .unset, .unset, .unset, .unset]) rfl ?_
        refine XS.iload X0.here hx rfl (hb hby at_138) rfl ?_
        refine XS.sipush X0.here hx rfl (hb hby at_140) ?_
        refine XS.iand X0.here hx rfl (hb hby at_143) rfl ?_
        refine XS.i2c X0.here hx rfl (hb hby at_144) rfl ?_
        exact k)
      have hqc133 : c129 = c133 := hc129.trans hc133.symm
      subst hqc133
      obtain ⟨c134, hc134⟩ : ∃ z : Int32, z = ((((qt.toUInt32 >>> ((8 : Int32) &&& 31).toUInt32).toInt32) &&& (255 : Int32)).toUInt32.toUInt16.toUInt32.toInt32) := ⟨_, rfl⟩
      refine own_to (V := s₁.setTop (mkF m 157 #[.val (.int qw), .val (.int qt), .val (.int qv), .val (.int qu), .val (.int qf), .val (.int x101), .val (.int x102), .val (.int x103), .val (.int x104), .val (.int qv), .val (.int qt), .val (.int x126), .val (.int c127), .val (.int c128), .val (.int c129), .val (.int c130), .val (.int c131), .val (.int c132), .val (.int c129), .unset, .unset, .unset, .unset, .unset, .unset, .unset, .unset] [(.int c134)])) ?_ fun t k => (by
        first | rw [hc134] at k | skip
        refine XS.istore X0.here hx rfl (hb hby at_145) rfl (l' := #[.val (.int qw), .val (.int qt), .val (.int qv), .val (.int qu), .val (.int qf), .val (.int x101), .val (.int x102), .val (.int x103), .val (.int x104), .val (.int qv), .val (.int qt), .val (.int x126), .val (.int c127), .val (.int c128), .val (.int c129), .val (.int c130), .val (.int c131), .val (.int c132), .val (.int c129), .unset, .unset, .unset, .unset, .unset, .unset, .unset, .unset]) rfl ?_
        refine XS.iload X0.here hx rfl (hb hby at_147) rfl ?_
        refine XS.bipush X0.here hx rfl (hb hby at_149) ?_
        refine XS.iushr X0.here hx rfl (hb hby at_151) rfl ?_
        refine XS.sipush X0.here hx rfl (hb hby at_152) ?_
        refine XS.iand X0.here hx rfl (hb hby at_155) rfl ?_
        refine XS.i2c X0.here hx rfl (hb hby at_156) rfl ?_
        exact k)
      have hqc134 : c130 = c134 := hc130.trans hc134.symm
      subst hqc134
      refine own_to (V := s₁.setTop (mkF m 159 #[.val (.int qw), .val (.int qt), .val (.int qv), .val (.int qu), .val (.int qf), .val (.int x101), .val (.int x102), .val (.int x103), .val (.int x104), .val (.int qv), .val (.int qt), .val (.int x126), .val (.int c127), .val (.int c128), .val (.int c129), .val (.int c130), .val (.int c131), .val (.int c132), .val (.int c129), .val (.int c130), .unset, .unset, .unset, .unset, .unset, .unset, .unset] [])) ?_ fun t k => (by
        refine XS.istore X0.here hx rfl (hb hby at_157) rfl (l' := #[.val (.int qw), .val (.int qt), .val (.int qv), .val (.int qu), .val (.int qf), .val (.int x101), .val (.int x102), .val (.int x103), .val (.int x104), .val (.int qv), .val (.int qt), .val (.int x126), .val (.int c127), .val (.int c128), .val (.int c129), .val (.int c130), .val (.int c131), .val (.int c132), .val (.int c129), .val (.int c130), .unset, .unset, .unset, .unset, .unset, .unset, .unset]) rfl ?_
        exact k)
      exact own_sglaw1 l Z a0 hw hst qw qt qv qu qf h0 n0 x101 x102 x103 x104 qv qt x126 c127 c128 c129 c130 c131 c132 c129 c130 hx hby hret hlk hml hnm hS0 hZ hown X0 e0 hk0 N0 X00 KK0 rb_c127 rb_c128 rb_c129 rb_c130 rb_c131 rb_c132 rb_c129 rb_c130 (by rw [hx101]; exact own_bit2 _) (by rw [hx102]; exact own_bit2 _) (by rw [hx103]; exact own_bit2 _) (by rw [hx104]; exact own_bit2 _)
    · skip
      obtain ⟨x135, hx135⟩ : ∃ z : Int32, z = (((qf.toUInt32 >>> ((6 : Int32) &&& 31).toUInt32).toInt32) &&& (3 : Int32)) := ⟨_, rfl⟩
      refine own_to (V := s₁.setTop (mkF m 79 #[.val (.int qw), .val (.int qt), .val (.int qv), .val (.int qu), .val (.int qf), .val (.int x101), .val (.int x102), .val (.int x103), .val (.int x104), .val (.int qv), .val (.int qu), .val (.int x135), .unset, .unset, .unset, .unset, .unset, .unset, .unset, .unset, .unset, .unset, .unset, .unset, .unset, .unset, .unset] [])) ?_ fun t k => (by
        first | rw [hx135] at k | skip
        refine XS.ifNo X0.here hx rfl (hb hby at_60) rfl ((if0 _ _).trans (feq (hc60_125 : ¬ ((((qf.toUInt32 >>> ((5 : Int32) &&& 31).toUInt32).toInt32) &&& (1 : Int32)) = (0 : Int32)))).1) ?_
        refine XS.iloadN X0.here hx rfl (hb hby at_63) rfl ?_
        refine XS.goto X0.here hx rfl (pc0 := 64) (pc' := 68) rfl (hb hby at_64) (by decide) (by decide) ?_
        refine XS.istore X0.here hx rfl (hb hby at_68) rfl (l' := #[.val (.int qw), .val (.int qt), .val (.int qv), .val (.int qu), .val (.int qf), .val (.int x101), .val (.int x102), .val (.int x103), .val (.int x104), .val (.int qv), .val (.int qu), .unset, .unset, .unset, .unset, .unset, .unset, .unset, .unset, .unset, .unset, .unset, .unset, .unset, .unset, .unset, .unset]) rfl ?_
        refine XS.iload X0.here hx rfl (hb hby at_70) rfl ?_
        refine XS.bipush X0.here hx rfl (hb hby at_72) ?_
        refine XS.iushr X0.here hx rfl (hb hby at_74) rfl ?_
        refine XS.iconst X0.here hx rfl (hb hby at_75) ?_
        refine XS.iand X0.here hx rfl (hb hby at_76) rfl ?_
        refine XS.istore X0.here hx rfl (hb hby at_77) rfl (l' := #[.val (.int qw), .val (.int qt), .val (.int qv), .val (.int qu), .val (.int qf), .val (.int x101), .val (.int x102), .val (.int x103), .val (.int x104), .val (.int qv), .val (.int qu), .val (.int (((qf.toUInt32 >>> ((6 : Int32) &&& 31).toUInt32).toInt32) &&& (3 : Int32))), .unset, .unset, .unset, .unset, .unset, .unset, .unset, .unset, .unset, .unset, .unset, .unset, .unset, .unset, .unset]) rfl ?_
        exact k)
      obtain ⟨c136, hc136⟩ : ∃ z : Int32, z = ((qw &&& (255 : Int32)).toUInt32.toUInt16.toUInt32.toInt32) := ⟨_, rfl⟩
      have rc_c136 : ¬ c136 < 0 ∧ ¬ (65535 : Int32) < c136 := by rw [hc136]; exact own_i2c_rng _
      have rb_c136 : ¬ c136 < 0 ∧ ¬ (255 : Int32) < c136 := by rw [hc136]; exact own_and255 _
      refine own_to (V := s₁.setTop (mkF m 85 #[.val (.int qw), .val (.int qt), .val (.int qv), .val (.int qu), .val (.int qf), .val (.int x101), .val (.int x102), .val (.int x103), .val (.int x104), .val (.int qv), .val (.int qu), .val (.int x135), .unset, .unset, .unset, .unset, .unset, .unset, .unset, .unset, .unset, .unset, .unset, .unset, .unset, .unset, .unset] [(.int c136)])) ?_ fun t k => (by
        first | rw [hc136] at k | skip
        refine XS.iloadN X0.here hx rfl (hb hby at_79) rfl ?_
        refine XS.sipush X0.here hx rfl (hb hby at_80) ?_
        refine XS.iand X0.here hx rfl (hb hby at_83) rfl ?_
        refine XS.i2c X0.here hx rfl (hb hby at_84) rfl ?_
        exact k)
      obtain ⟨c137, hc137⟩ : ∃ z : Int32, z = ((((qw.toUInt32 >>> ((8 : Int32) &&& 31).toUInt32).toInt32) &&& (255 : Int32)).toUInt32.toUInt16.toUInt32.toInt32) := ⟨_, rfl⟩
      have rc_c137 : ¬ c137 < 0 ∧ ¬ (65535 : Int32) < c137 := by rw [hc137]; exact own_i2c_rng _
      have rb_c137 : ¬ c137 < 0 ∧ ¬ (255 : Int32) < c137 := by rw [hc137]; exact own_and255 _
      refine own_to (V := s₁.setTop (mkF m 96 #[.val (.int qw), .val (.int qt), .val (.int qv), .val (.int qu), .val (.int qf), .val (.int x101), .val (.int x102), .val (.int x103), .val (.int x104), .val (.int qv), .val (.int qu), .val (.int x135), .val (.int c136), .unset, .unset, .unset, .unset, .unset, .unset, .unset, .unset, .unset, .unset, .unset, .unset, .unset, .unset] [(.int c137)])) ?_ fun t k => (by
        first | rw [hc137] at k | skip
        refine XS.istore X0.here hx rfl (hb hby at_85) rfl (l' := #[.val (.int qw), .val (.int qt), .val (.int qv), .val (.int qu), .val (.int qf), .val (.int x101), .val (.int x102), .val (.int x103), .val (.int x104), .val (.int qv), .val (.int qu), .val (.int x135), .val (.int c136), .unset, .unset, .unset, .unset, .unset, .unset, .unset, .unset, .unset, .unset, .unset, .unset, .unset, .unset]) rfl ?_
        refine XS.iloadN X0.here hx rfl (hb hby at_87) rfl ?_
        refine XS.bipush X0.here hx rfl (hb hby at_88) ?_
        refine XS.iushr X0.here hx rfl (hb hby at_90) rfl ?_
        refine XS.sipush X0.here hx rfl (hb hby at_91) ?_
        refine XS.iand X0.here hx rfl (hb hby at_94) rfl ?_
        refine XS.i2c X0.here hx rfl (hb hby at_95) rfl ?_
        exact k)
      obtain ⟨c138, hc138⟩ : ∃ z : Int32, z = ((qt &&& (255 : Int32)).toUInt32.toUInt16.toUInt32.toInt32) := ⟨_, rfl⟩
      have rc_c138 : ¬ c138 < 0 ∧ ¬ (65535 : Int32) < c138 := by rw [hc138]; exact own_i2c_rng _
      have rb_c138 : ¬ c138 < 0 ∧ ¬ (255 : Int32) < c138 := by rw [hc138]; exact own_and255 _
      refine own_to (V := s₁.setTop (mkF m 104 #[.val (.int qw), .val (.int qt), .val (.int qv), .val (.int qu), .val (.int qf), .val (.int x101), .val (.int x102), .val (.int x103), .val (.int x104), .val (.int qv), .val (.int qu), .val (.int x135), .val (.int c136), .val (.int c137), .unset, .unset, .unset, .unset, .unset, .unset, .unset, .unset, .unset, .unset, .unset, .unset, .unset] [(.int c138)])) ?_ fun t k => (by
        first | rw [hc138] at k | skip
        refine XS.istore X0.here hx rfl (hb hby at_96) rfl (l' := #[.val (.int qw), .val (.int qt), .val (.int qv), .val (.int qu), .val (.int qf), .val (.int x101), .val (.int x102), .val (.int x103), .val (.int x104), .val (.int qv), .val (.int qu), .val (.int x135), .val (.int c136), .val (.int c137), .unset, .unset, .unset, .unset, .unset, .unset, .unset, .unset, .unset, .unset, .unset, .unset, .unset]) rfl ?_
        refine XS.iloadN X0.here hx rfl (hb hby at_98) rfl ?_
        refine XS.sipush X0.here hx rfl (hb hby at_99) ?_
        refine XS.iand X0.here hx rfl (hb hby at_102) rfl ?_
        refine XS.i2c X0.here hx rfl (hb hby at_103) rfl ?_
        exact k)
      obtain ⟨c139, hc139⟩ : ∃ z : Int32, z = ((((qt.toUInt32 >>> ((8 : Int32) &&& 31).toUInt32).toInt32) &&& (255 : Int32)).toUInt32.toUInt16.toUInt32.toInt32) := ⟨_, rfl⟩
      have rc_c139 : ¬ c139 < 0 ∧ ¬ (65535 : Int32) < c139 := by rw [hc139]; exact own_i2c_rng _
      have rb_c139 : ¬ c139 < 0 ∧ ¬ (255 : Int32) < c139 := by rw [hc139]; exact own_and255 _
      refine own_to (V := s₁.setTop (mkF m 115 #[.val (.int qw), .val (.int qt), .val (.int qv), .val (.int qu), .val (.int qf), .val (.int x101), .val (.int x102), .val (.int x103), .val (.int x104), .val (.int qv), .val (.int qu), .val (.int x135), .val (.int c136), .val (.int c137), .val (.int c138), .unset, .unset, .unset, .unset, .unset, .unset, .unset, .unset, .unset, .unset, .unset, .unset] [(.int c139)])) ?_ fun t k => (by
        first | rw [hc139] at k | skip
        refine XS.istore X0.here hx rfl (hb hby at_104) rfl (l' := #[.val (.int qw), .val (.int qt), .val (.int qv), .val (.int qu), .val (.int qf), .val (.int x101), .val (.int x102), .val (.int x103), .val (.int x104), .val (.int qv), .val (.int qu), .val (.int x135), .val (.int c136), .val (.int c137), .val (.int c138), .unset, .unset, .unset, .unset, .unset, .unset, .unset, .unset, .unset, .unset, .unset, .unset]) rfl ?_
        refine XS.iloadN X0.here hx rfl (hb hby at_106) rfl ?_
        refine XS.bipush X0.here hx rfl (hb hby at_107) ?_
        refine XS.iushr X0.here hx rfl (hb hby at_109) rfl ?_
        refine XS.sipush X0.here hx rfl (hb hby at_110) ?_
        refine XS.iand X0.here hx rfl (hb hby at_113) rfl ?_
        refine XS.i2c X0.here hx rfl (hb hby at_114) rfl ?_
        exact k)
      obtain ⟨c140, hc140⟩ : ∃ z : Int32, z = ((qv &&& (255 : Int32)).toUInt32.toUInt16.toUInt32.toInt32) := ⟨_, rfl⟩
      have rc_c140 : ¬ c140 < 0 ∧ ¬ (65535 : Int32) < c140 := by rw [hc140]; exact own_i2c_rng _
      have rb_c140 : ¬ c140 < 0 ∧ ¬ (255 : Int32) < c140 := by rw [hc140]; exact own_and255 _
      refine own_to (V := s₁.setTop (mkF m 124 #[.val (.int qw), .val (.int qt), .val (.int qv), .val (.int qu), .val (.int qf), .val (.int x101), .val (.int x102), .val (.int x103), .val (.int x104), .val (.int qv), .val (.int qu), .val (.int x135), .val (.int c136), .val (.int c137), .val (.int c138), .val (.int c139), .unset, .unset, .unset, .unset, .unset, .unset, .unset, .unset, .unset, .unset, .unset] [(.int c140)])) ?_ fun t k => (by
        first | rw [hc140] at k | skip
        refine XS.istore X0.here hx rfl (hb hby at_115) rfl (l' := #[.val (.int qw), .val (.int qt), .val (.int qv), .val (.int qu), .val (.int qf), .val (.int x101), .val (.int x102), .val (.int x103), .val (.int x104), .val (.int qv), .val (.int qu), .val (.int x135), .val (.int c136), .val (.int c137), .val (.int c138), .val (.int c139), .unset, .unset, .unset, .unset, .unset, .unset, .unset, .unset, .unset, .unset, .unset]) rfl ?_
        refine XS.iload X0.here hx rfl (hb hby at_117) rfl ?_
        refine XS.sipush X0.here hx rfl (hb hby at_119) ?_
        refine XS.iand X0.here hx rfl (hb hby at_122) rfl ?_
        refine XS.i2c X0.here hx rfl (hb hby at_123) rfl ?_
        exact k)
      obtain ⟨c141, hc141⟩ : ∃ z : Int32, z = ((((qv.toUInt32 >>> ((8 : Int32) &&& 31).toUInt32).toInt32) &&& (255 : Int32)).toUInt32.toUInt16.toUInt32.toInt32) := ⟨_, rfl⟩
      have rc_c141 : ¬ c141 < 0 ∧ ¬ (65535 : Int32) < c141 := by rw [hc141]; exact own_i2c_rng _
      have rb_c141 : ¬ c141 < 0 ∧ ¬ (255 : Int32) < c141 := by rw [hc141]; exact own_and255 _
      refine own_to (V := s₁.setTop (mkF m 136 #[.val (.int qw), .val (.int qt), .val (.int qv), .val (.int qu), .val (.int qf), .val (.int x101), .val (.int x102), .val (.int x103), .val (.int x104), .val (.int qv), .val (.int qu), .val (.int x135), .val (.int c136), .val (.int c137), .val (.int c138), .val (.int c139), .val (.int c140), .unset, .unset, .unset, .unset, .unset, .unset, .unset, .unset, .unset, .unset] [(.int c141)])) ?_ fun t k => (by
        first | rw [hc141] at k | skip
        refine XS.istore X0.here hx rfl (hb hby at_124) rfl (l' := #[.val (.int qw), .val (.int qt), .val (.int qv), .val (.int qu), .val (.int qf), .val (.int x101), .val (.int x102), .val (.int x103), .val (.int x104), .val (.int qv), .val (.int qu), .val (.int x135), .val (.int c136), .val (.int c137), .val (.int c138), .val (.int c139), .val (.int c140), .unset, .unset, .unset, .unset, .unset, .unset, .unset, .unset, .unset, .unset]) rfl ?_
        refine XS.iload X0.here hx rfl (hb hby at_126) rfl ?_
        refine XS.bipush X0.here hx rfl (hb hby at_128) ?_
        refine XS.iushr X0.here hx rfl (hb hby at_130) rfl ?_
        refine XS.sipush X0.here hx rfl (hb hby at_131) ?_
        refine XS.iand X0.here hx rfl (hb hby at_134) rfl ?_
        refine XS.i2c X0.here hx rfl (hb hby at_135) rfl ?_
        exact k)
      obtain ⟨c142, hc142⟩ : ∃ z : Int32, z = ((qu &&& (255 : Int32)).toUInt32.toUInt16.toUInt32.toInt32) := ⟨_, rfl⟩
      have rc_c142 : ¬ c142 < 0 ∧ ¬ (65535 : Int32) < c142 := by rw [hc142]; exact own_i2c_rng _
      have rb_c142 : ¬ c142 < 0 ∧ ¬ (255 : Int32) < c142 := by rw [hc142]; exact own_and255 _
      refine own_to (V := s₁.setTop (mkF m 145 #[.val (.int qw), .val (.int qt), .val (.int qv), .val (.int qu), .val (.int qf), .val (.int x101), .val (.int x102), .val (.int x103), .val (.int x104), .val (.int qv), .val (.int qu), .val (.int x135), .val (.int c136), .val (.int c137), .val (.int c138), .val (.int c139), .val (.int c140), .val (.int c141), .unset, .unset, .unset, .unset, .unset, .unset, .unset, .unset, .unset] [(.int c142)])) ?_ fun t k => (by
        first | rw [hc142] at k | skip
        refine XS.istore X0.here hx rfl (hb hby at_136) rfl (l' := #[.val (.int qw), .val (.int qt), .val (.int qv), .val (.int qu), .val (.int qf), .val (.int x101), .val (.int x102), .val (.int x103), .val (.int x104), .val (.int qv), .val (.int qu), .val (.int x135), .val (.int c136), .val (.int c137), .val (.int c138), .val (.int c139), .val (.int c140), .val (.int c141), .unset, .unset, .unset, .unset, .unset, .unset, .unset, .unset, .unset]) rfl ?_
        refine XS.iload X0.here hx rfl (hb hby at_138) rfl ?_
        refine XS.sipush X0.here hx rfl (hb hby at_140) ?_
        refine XS.iand X0.here hx rfl (hb hby at_143) rfl ?_
        refine XS.i2c X0.here hx rfl (hb hby at_144) rfl ?_
        exact k)
      obtain ⟨c143, hc143⟩ : ∃ z : Int32, z = ((((qu.toUInt32 >>> ((8 : Int32) &&& 31).toUInt32).toInt32) &&& (255 : Int32)).toUInt32.toUInt16.toUInt32.toInt32) := ⟨_, rfl⟩
      have rc_c143 : ¬ c143 < 0 ∧ ¬ (65535 : Int32) < c143 := by rw [hc143]; exact own_i2c_rng _
      have rb_c143 : ¬ c143 < 0 ∧ ¬ (255 : Int32) < c143 := by rw [hc143]; exact own_and255 _
      refine own_to (V := s₁.setTop (mkF m 157 #[.val (.int qw), .val (.int qt), .val (.int qv), .val (.int qu), .val (.int qf), .val (.int x101), .val (.int x102), .val (.int x103), .val (.int x104), .val (.int qv), .val (.int qu), .val (.int x135), .val (.int c136), .val (.int c137), .val (.int c138), .val (.int c139), .val (.int c140), .val (.int c141), .val (.int c142), .unset, .unset, .unset, .unset, .unset, .unset, .unset, .unset] [(.int c143)])) ?_ fun t k => (by
        first | rw [hc143] at k | skip
        refine XS.istore X0.here hx rfl (hb hby at_145) rfl (l' := #[.val (.int qw), .val (.int qt), .val (.int qv), .val (.int qu), .val (.int qf), .val (.int x101), .val (.int x102), .val (.int x103), .val (.int x104), .val (.int qv), .val (.int qu), .val (.int x135), .val (.int c136), .val (.int c137), .val (.int c138), .val (.int c139), .val (.int c140), .val (.int c141), .val (.int c142), .unset, .unset, .unset, .unset, .unset, .unset, .unset, .unset]) rfl ?_
        refine XS.iload X0.here hx rfl (hb hby at_147) rfl ?_
        refine XS.bipush X0.here hx rfl (hb hby at_149) ?_
        refine XS.iushr X0.here hx rfl (hb hby at_151) rfl ?_
        refine XS.sipush X0.here hx rfl (hb hby at_152) ?_
        refine XS.iand X0.here hx rfl (hb hby at_155) rfl ?_
        refine XS.i2c X0.here hx rfl (hb hby at_156) rfl ?_
        exact k)
      refine own_to (V := s₁.setTop (mkF m 159 #[.val (.int qw), .val (.int qt), .val (.int qv), .val (.int qu), .val (.int qf), .val (.int x101), .val (.int x102), .val (.int x103), .val (.int x104), .val (.int qv), .val (.int qu), .val (.int x135), .val (.int c136), .val (.int c137), .val (.int c138), .val (.int c139), .val (.int c140), .val (.int c141), .val (.int c142), .val (.int c143), .unset, .unset, .unset, .unset, .unset, .unset, .unset] [])) ?_ fun t k => (by
        refine XS.istore X0.here hx rfl (hb hby at_157) rfl (l' := #[.val (.int qw), .val (.int qt), .val (.int qv), .val (.int qu), .val (.int qf), .val (.int x101), .val (.int x102), .val (.int x103), .val (.int x104), .val (.int qv), .val (.int qu), .val (.int x135), .val (.int c136), .val (.int c137), .val (.int c138), .val (.int c139), .val (.int c140), .val (.int c141), .val (.int c142), .val (.int c143), .unset, .unset, .unset, .unset, .unset, .unset, .unset]) rfl ?_
        exact k)
      exact own_sglaw1 l Z a0 hw hst qw qt qv qu qf h0 n0 x101 x102 x103 x104 qv qu x135 c136 c137 c138 c139 c140 c141 c142 c143 hx hby hret hlk hml hnm hS0 hZ hown X0 e0 hk0 N0 X00 KK0 rb_c136 rb_c137 rb_c138 rb_c139 rb_c140 rb_c141 rb_c142 rb_c143 (by rw [hx101]; exact own_bit2 _) (by rw [hx102]; exact own_bit2 _) (by rw [hx103]; exact own_bit2 _) (by rw [hx104]; exact own_bit2 _)
set_option maxRecDepth 65536 in
set_option maxHeartbeats 40000000 in
theorem comes_1 {Post : Tables → Env → Array Value → State → Outcome → State → Prop} (hpost : ∀ tb e args s v u, (limb_1_1.after args s (.returned v) u = true ∧ limb_1_2.after args s (.returned v) u = true ∧ True) → ReturnedEndW s (.returned v) u (Jvm.fieldLocs frame_1_writes args s ++ Jvm.arrayLocs frame_1_arrays args s ++ Jvm.staticLocs frame_1_statics s) 48 2240 → Post tb e args s (.returned v) u) :
    ArmFor flags0 classFile x code maxLocals ret World_1 tables_1 room_1 Calls_1 rest_1 Pre_1 Post := by
  intro l hfl _ _ p e ha hc hk s m args below hf hA hF happ hP
  obtain ⟨hcalls, hrest, hpre⟩ := hP
  obtain ⟨-, -, -, hnamed, -, -, -, hat⟩ := (Spec.applies_iff hf).mp happ
  obtain ⟨hg, hn⟩ := and_e (Cond.before_iff.mp (show (Jvm.Cond.and given_1 narrow_1).before args s = true from hpre))
  obtain ⟨hcnt, gr0⟩ := and_e hg
  obtain ⟨ga0, gr1⟩ := and_e gr0
  obtain ⟨ga1, gr2⟩ := and_e gr1
  obtain ⟨ga2, gr3⟩ := and_e gr2
  obtain ⟨ga3, gr4⟩ := and_e gr3
  have ga4 := gr4
  obtain ⟨w0, w1, w2, w3, w4, rfl⟩ : ∃ w0 w1 w2 w3 w4 : Value, args = #[w0, w1, w2, w3, w4] := by
    have hs : args.size = 5 := by simpa [Cond.value, given_1] using hcnt
    obtain ⟨L⟩ := args
    match L, hs with
    | [w0, w1, w2, w3, w4], _ => exact ⟨w0, w1, w2, w3, w4, rfl⟩
  have hw := fun d (hd : d ∈ tables_1) => atoms_spec (ws := Jvm.Cond.code x code maxLocals ret :: tables_1) hat d (List.mem_cons_of_mem _ hd)
  have hfit : Fit s := fun {y c} hc i hi => by
    obtain ⟨ha, rfl⟩ := Array.getElem?_eq_some_iff.mp hc
    have q := List.all_eq_true.mp ((Array.all_eq_true_iff_forall_mem.mp hF) _ (Array.getElem_mem ha)) i (List.mem_range.mpr hi)
    simpa [Array.getElem?_eq_getElem hi] using q
  obtain ⟨hsets, hown0⟩ := atoms_of _ (rest_1_c_eq ▸ (show rest_1_c.before _ s = true from hrest))
  obtain ⟨i0, ei0⟩ := is_v ga0
  obtain rfl : w0 = (.int i0) := Option.some.inj ei0
  obtain ⟨i1, ei1⟩ := is_v ga1
  obtain rfl : w1 = (.int i1) := Option.some.inj ei1
  obtain ⟨i2, ei2⟩ := is_v ga2
  obtain rfl : w2 = (.int i2) := Option.some.inj ei2
  obtain ⟨i3, ei3⟩ := is_v ga3
  obtain rfl : w3 = (.int i3) := Option.some.inj ei3
  obtain ⟨i4, ei4⟩ := is_v ga4
  obtain rfl : w4 = (.int i4) := Option.some.inj ei4
  obtain ⟨z1, ez1⟩ := is_v (Cond.before_iff.mp (hsets _ (List.mem_of_getElem? (i := 1) rfl)))
  have S1 : Sta s s.heap "java/lang/String" "COMPACT_STRINGS" "Z" (.int z1) := Sta.start ez1 (Or.inl (hsets _ (List.mem_of_getElem? (i := 0) rfl)))
  have P1 : ¬ (z1 = (0 : Int32)) := gotF (Cond.eq_ints ez1 (Term.int_eval (0))) (not_v (Cond.before_iff.mp (hsets _ (List.mem_of_getElem? (i := 2) rfl))))
  obtain ⟨v3, ev3, r3⟩ := isR_v (Cond.before_iff.mp (hsets _ (List.mem_of_getElem? (i := 8) rfl)))
  have S3 : Sta s s.heap "jdk/internal/util/Preconditions" "SIOOBE_FORMATTER" "Ljava/util/function/BiFunction;" v3 := Sta.start ev3 (Or.inl (hsets _ (List.mem_of_getElem? (i := 7) rfl)))
  have hIC := own_intcache (Cond.before_iff.mp (hsets _ (List.mem_of_getElem? (i := 12) rfl))) (hsets _ (List.mem_of_getElem? (i := 10) rfl)) (hsets _ (List.mem_of_getElem? (i := 11) rfl)) (Cond.before_iff.mp (hsets _ (List.mem_of_getElem? (i := 13) rfl))) (Cond.before_iff.mp (hsets _ (List.mem_of_getElem? (i := 15) rfl))) (Cond.before_iff.mp (hsets _ (List.mem_of_getElem? (i := 16) rfl))) (hw _ (List.mem_of_getElem? (i := 85) rfl))
  have hst : own_St s := ⟨⟨z1, S1, P1⟩, ⟨v3, S3, r3⟩, hIC, trivial⟩
  obtain ⟨n, o, h1, h2, h3, _, L, rfl, ⟨rfl, N, -⟩, hq⟩ := own_rmlaw l s _ hw hst tables_1 i0 i1 i2 i3 i4 s.heap s.heap.size (Old.start s)  p e ha hc hk s m _ below hf ((Spec.applies_iff_loose hf).mp happ).1 ⟨rfl, State.Warmed39.refl s, rfl⟩ trivial
  refine ⟨n, _, h1, h2, h3, hpost _ _ _ _ _ _ ⟨Cond.after_iff.mpr rfl, Cond.after_iff.mpr (eq_i res_at (Term.int_eval (1)) rfl), trivial⟩ ⟨hq.1, hq.2.1, hq.2.2.1, (hq.2.2.2.sift fun y hy => Or.inr (N y hy)).mono (by decide) (by decide)⟩⟩
theorem main_1_1 : Claimed_1_1 := comes_1 fun _ _ _ _ _ _ h hF => ⟨h.1, hF⟩
theorem main_1_2 : Claimed_1_2 := comes_1 fun _ _ _ _ _ _ h hF => ⟨h.2.1, hF⟩
end Jvm.Pilot.@@N@@
namespace Jvm.Pilot.@@N@@
open Jvm Jvm.ClassFile Sem Op Lib Jvm.Free Jvm.Stand Jvm.Pilot.@@N@@.Jvm.D
/-! MADE BY PROGRAM (witnessworld.py) out of the Statement's table words and the real class files: 25 classes; the members and pool entries that the words name. The judged class is class 1, her method 3. -/
namespace start1
open Jvm.ClassFile
def u (s : String) : CpInfo := .utf8 (stringToUtf16 s)
/-- a pool by its gaps: so many unusable entries, then the entry; so many at the end -/
def gap : Nat → List CpInfo → List CpInfo
  | 0, r => r
  | n + 1, r => .unusable :: gap n r
def poolList (es : List (Nat × CpInfo)) (last : Nat) : List CpInfo := es.foldr (fun e r => gap e.1 (e.2 :: r)) (gap last [])
def pool (es : List (Nat × CpInfo)) (last : Nat) : Array CpInfo := ⟨poolList es last⟩
def fileOf (pool : Array CpInfo) (this : Nat) (attrs : Array Attribute := #[]) (ms : Array MethodInfo := #[]) (fl : Nat := 33) (sup : Nat := 0) (ifs : Array Nat := #[]) (fds : Array FieldInfo := #[]) : ClassFile where
  minorVersion := 0
  majorVersion := 65
  constantPool := pool
  accessFlags := fl
  thisClass := this
  superClass := sup
  interfaces := ifs
  fields := fds
  methods := ms
  attributes := attrs
def plain (name : String) (sup : Option ClassId) : Class where
  name := name
  kind := .ordinary
  loader := none
  accessFlags := 33
  super := sup
  interfaces := #[]
  cf := none
  fields := #[]
  methods := #[]
  instanceTypes := #[]
  staticTypes := #[]
  resolved := #[]
  callSites := []
  init := .initialized
  statics := none
  mirror := none

def pool0 : Array CpInfo := pool [(5, u "<init>"), (0, u "()V"), (1, .class_ 10), (1, u "java/lang/Object")] 113

def k0c0 : Code := { maxStack := 0, maxLocals := 1, code := object_method_1_code, exceptionTable := #[], attributes := #[] }
def k0m0 : Method := { name := "<init>", desc := "()V", sig := { parameters := [], returnType := none }, accessFlags := 1, code := some k0c0 }
/-- java/lang/Object -/
def k0 : Class := { plain "java/lang/Object" none with
  accessFlags := 33
  interfaces := #[]
  cf := some (fileOf pool0 8 #[] #[{ accessFlags := 1, nameIndex := 5, descriptorIndex := 6, attributes := #[] }] 33 0 #[] #[])
  fields := #[]
  methods := #[k0m0]
  instanceTypes := #[]
  staticTypes := #[]
  resolved := Array.replicate 124 none
  statics := none }

def pool1 : Array CpInfo := pool [(2, .class_ 4), (1, u "java/lang/Object"), (0, u "<init>"), (0, u "()V"), (0, .class_ 8), (0, u "java/lang/String"), (0, .methodref 7 10), (0, .nameAndType 5 11), (0, u "([C)V"), (0, .methodref 13 14), (0, .class_ 15), (0, .nameAndType 16 17), (0, u "com/example/eager_query/eagerquery/model/TokenEqualsPinLaw"), (0, u "make"), (0, u "(ICC)Ljava/lang/String;"), (0, .class_ 19), (0, u "com/example/eager_query/eagerquery/model/Token"), (0, .methodref 18 21), (0, .nameAndType 5 22), (0, u "(Ljava/lang/String;Ljava/lang/String;)V"), (0, .methodref 18 24), (0, .nameAndType 25 26), (0, u "equals"), (0, u "(Ljava/lang/Object;)Z"), (0, .methodref 28 29), (0, .class_ 30), (0, .nameAndType 31 32), (0, u "java/lang/Integer"), (0, u "valueOf"), (0, u "(I)Ljava/lang/Integer;"), (0, .methodref 13 34), (0, .nameAndType 35 36), (0, u "same"), (0, u "(ICCICC)Z"), (3, u "law"), (0, u "(IIIII)Z")] 2

def k1m0 : Method := { name := "<init>", desc := "()V", sig := { parameters := [], returnType := none }, accessFlags := 1, code := none }
def k1c1 : Code := { maxStack := 3, maxLocals := 4, code := method_2_code, exceptionTable := #[], attributes := #[] }
def k1m1 : Method := { name := "make", desc := "(ICC)Ljava/lang/String;", sig := { parameters := [.int, .char, .char], returnType := some (.object "java/lang/String") }, accessFlags := 10, code := some k1c1 }
def k1c2 : Code := { maxStack := 2, maxLocals := 6, code := method_3_code, exceptionTable := #[], attributes := #[] }
def k1m2 : Method := { name := "same", desc := "(ICCICC)Z", sig := { parameters := [.int, .char, .char, .int, .char, .char], returnType := some .boolean }, accessFlags := 10, code := some k1c2 }
def k1c3 : Code := { maxStack := 6, maxLocals := 27, code := code, exceptionTable := #[], attributes := #[] }
def k1m3 : Method := { name := "law", desc := "(IIIII)Z", sig := { parameters := [.int, .int, .int, .int, .int], returnType := some .boolean }, accessFlags := 9, code := some k1c3 }
/-- com/example/eager_query/eagerquery/model/TokenEqualsPinLaw -/
def k1 : Class := { plain "com/example/eager_query/eagerquery/model/TokenEqualsPinLaw" (some 0) with
  accessFlags := 49
  interfaces := #[]
  cf := some (fileOf pool1 13 #[] #[{ accessFlags := 1, nameIndex := 5, descriptorIndex := 6, attributes := #[] }, { accessFlags := 10, nameIndex := 16, descriptorIndex := 17, attributes := #[] }, { accessFlags := 10, nameIndex := 35, descriptorIndex := 36, attributes := #[] }, { accessFlags := 9, nameIndex := 40, descriptorIndex := 41, attributes := #[] }] 49 2 #[] #[])
  fields := #[]
  methods := #[k1m0, k1m1, k1m2, k1m3]
  instanceTypes := #[]
  staticTypes := #[]
  resolved := Array.replicate 44 none
  statics := none }

def pool2 : Array CpInfo := pool [(1, .class_ 2), (0, u "java/io/Serializable"), (0, .class_ 4), (0, u "java/lang/Object")] 2

/-- java/io/Serializable -/
def k2 : Class := { plain "java/io/Serializable" (some 0) with
  accessFlags := 1537
  interfaces := #[]
  cf := some (fileOf pool2 1 #[] #[] 1537 3 #[] #[])
  fields := #[]
  methods := #[]
  instanceTypes := #[]
  staticTypes := #[]
  resolved := Array.replicate 7 none
  statics := none }

def pool3 : Array CpInfo := pool [(1, .class_ 2), (0, u "java/lang/Comparable"), (0, .class_ 4), (0, u "java/lang/Object")] 7

/-- java/lang/Comparable -/
def k3 : Class := { plain "java/lang/Comparable" (some 0) with
  accessFlags := 1537
  interfaces := #[]
  cf := some (fileOf pool3 1 #[] #[] 1537 3 #[] #[])
  fields := #[]
  methods := #[]
  instanceTypes := #[]
  staticTypes := #[]
  resolved := Array.replicate 12 none
  statics := none }

def pool4 : Array CpInfo := pool [(2, .class_ 4), (1, u "java/lang/CharSequence"), (42, .class_ 48), (0, u "java/lang/CharSequence$1CodePointIterator"), (10, .class_ 60), (0, u "java/lang/CharSequence$1CharIterator"), (5, .class_ 67), (0, u "java/lang/Object")] 63

/-- java/lang/CharSequence -/
def k4 : Class := { plain "java/lang/CharSequence" (some 0) with
  accessFlags := 1537
  interfaces := #[]
  cf := some (fileOf pool4 2 #[.nestMembers #[47, 59]] #[] 1537 66 #[] #[])
  fields := #[]
  methods := #[]
  instanceTypes := #[]
  staticTypes := #[]
  resolved := Array.replicate 131 none
  statics := none }

def pool5 : Array CpInfo := pool [(1, .class_ 2), (0, u "java/lang/constant/Constable"), (0, .class_ 4), (0, u "java/lang/Object")] 6

/-- java/lang/constant/Constable -/
def k5 : Class := { plain "java/lang/constant/Constable" (some 0) with
  accessFlags := 1537
  interfaces := #[]
  cf := some (fileOf pool5 1 #[] #[] 1537 3 #[] #[])
  fields := #[]
  methods := #[]
  instanceTypes := #[]
  staticTypes := #[]
  resolved := Array.replicate 11 none
  statics := none }

def pool6 : Array CpInfo := pool [(1, .class_ 2), (0, u "java/lang/constant/ConstantDesc"), (0, .class_ 4), (0, u "java/lang/Object")] 32

/-- java/lang/constant/ConstantDesc -/
def k6 : Class := { plain "java/lang/constant/ConstantDesc" (some 0) with
  accessFlags := 1537
  interfaces := #[]
  cf := some (fileOf pool6 1 #[] #[] 1537 3 #[] #[])
  fields := #[]
  methods := #[]
  instanceTypes := #[]
  staticTypes := #[]
  resolved := Array.replicate 37 none
  statics := none }

def pool7 : Array CpInfo := pool [(1, .methodref 2 3), (0, .class_ 4), (0, .nameAndType 5 6), (0, u "java/lang/Object"), (0, u "<init>"), (0, u "()V"), (2, .fieldref 10 11), (0, .class_ 12), (0, .nameAndType 13 14), (0, u "java/lang/String"), (0, u "value"), (0, u "[B"), (0, .fieldref 10 16), (0, .nameAndType 17 18), (0, u "coder"), (0, u "B"), (2, u "hash"), (0, u "I"), (2, u "hashIsZero"), (0, u "Z"), (0, .methodref 10 28), (0, .nameAndType 5 29), (0, u "([CIILjava/lang/Void;)V"), (8, .fieldref 10 39), (0, .nameAndType 40 26), (0, u "COMPACT_STRINGS"), (1, .class_ 44), (1, u "java/lang/StringUTF16"), (0, u "compress"), (1, .methodref 42 48), (0, .nameAndType 49 50), (0, u "coderFromArrayLen"), (0, u "([BI)B"), (56, .class_ 109), (1, u "java/lang/StringLatin1"), (32, u "()Z"), (34, .methodref 42 178), (0, .nameAndType 45 179), (0, u "([CII)[B"), (361, .methodref 107 542), (0, .nameAndType 543 544), (0, u "equals"), (0, u "([B[B)Z"), (28, u "(Ljava/lang/Object;)Z"), (1, .class_ 576), (0, u "java/lang/CharSequence"), (22, u "CASE_INSENSITIVE_ORDER"), (0, u "Ljava/util/Comparator;"), (91, u "isEmpty"), (317, u "([C)V"), (90, u "serialPersistentFields"), (0, u "[Ljava/io/ObjectStreamField;"), (0, .class_ 1104), (0, u "java/lang/String$CaseInsensitiveComparator"), (1, .class_ 1107), (0, u "java/io/Serializable"), (0, .class_ 1109), (0, u "java/lang/Comparable"), (0, .class_ 1111), (0, u "java/lang/constant/Constable"), (0, .class_ 1113), (0, u "java/lang/constant/ConstantDesc"), (2, u "serialVersionUID"), (0, u "J"), (3, u "REPL"), (0, u "C"), (2, u "LATIN1"), (1, u "UTF16")] 323

def k7m0 : Method := { name := "<init>", desc := "()V", sig := { parameters := [], returnType := none }, accessFlags := 1, code := none }
def k7c1 : Code := { maxStack := 5, maxLocals := 2, code := jdk_42_method_3_code, exceptionTable := #[], attributes := #[] }
def k7m1 : Method := { name := "<init>", desc := "([C)V", sig := { parameters := [(.array .char)], returnType := none }, accessFlags := 1, code := some k7c1 }
def k7c2 : Code := { maxStack := 1, maxLocals := 1, code := jdk_42_method_55_code, exceptionTable := #[], attributes := #[] }
def k7m2 : Method := { name := "isEmpty", desc := "()Z", sig := { parameters := [], returnType := some .boolean }, accessFlags := 1, code := some k7c2 }
def k7c3 : Code := { maxStack := 2, maxLocals := 3, code := jdk_42_method_66_code, exceptionTable := #[], attributes := #[] }
def k7m3 : Method := { name := "equals", desc := "(Ljava/lang/Object;)Z", sig := { parameters := [(.object "java/lang/Object")], returnType := some .boolean }, accessFlags := 1, code := some k7c3 }
def k7c4 : Code := { maxStack := 4, maxLocals := 6, code := jdk_42_method_149_code, exceptionTable := #[], attributes := #[] }
def k7m4 : Method := { name := "<init>", desc := "([CIILjava/lang/Void;)V", sig := { parameters := [(.array .char), .int, .int, (.object "java/lang/Void")], returnType := none }, accessFlags := 2, code := some k7c4 }
/-- java/lang/String -/
def k7 : Class := { plain "java/lang/String" (some 0) with
  accessFlags := 49
  interfaces := #[2, 3, 4, 5, 6]
  cf := some (fileOf pool7 10 #[.nestMembers #[1103]] #[{ accessFlags := 1, nameIndex := 5, descriptorIndex := 6, attributes := #[] }, { accessFlags := 1, nameIndex := 5, descriptorIndex := 1010, attributes := #[] }, { accessFlags := 1, nameIndex := 692, descriptorIndex := 142, attributes := #[] }, { accessFlags := 1, nameIndex := 543, descriptorIndex := 573, attributes := #[] }, { accessFlags := 2, nameIndex := 5, descriptorIndex := 29, attributes := #[] }] 49 2 #[1106, 1108, 575, 1110, 1112] #[{ accessFlags := 18, nameIndex := 13, descriptorIndex := 14, attributes := #[] }, { accessFlags := 18, nameIndex := 17, descriptorIndex := 18, attributes := #[] }, { accessFlags := 2, nameIndex := 21, descriptorIndex := 22, attributes := #[] }, { accessFlags := 2, nameIndex := 25, descriptorIndex := 26, attributes := #[] }, { accessFlags := 26, nameIndex := 1116, descriptorIndex := 1117, attributes := #[] }, { accessFlags := 24, nameIndex := 40, descriptorIndex := 26, attributes := #[] }, { accessFlags := 26, nameIndex := 1101, descriptorIndex := 1102, attributes := #[] }, { accessFlags := 26, nameIndex := 1121, descriptorIndex := 1122, attributes := #[] }, { accessFlags := 25, nameIndex := 599, descriptorIndex := 600, attributes := #[] }, { accessFlags := 24, nameIndex := 1125, descriptorIndex := 18, attributes := #[] }, { accessFlags := 24, nameIndex := 1127, descriptorIndex := 18, attributes := #[] }])
  fields := #[{ name := "value", type := (.array .byte), accessFlags := 18, slot := 0, constantValue := 0 }, { name := "coder", type := .byte, accessFlags := 18, slot := 1, constantValue := 0 }, { name := "hash", type := .int, accessFlags := 2, slot := 2, constantValue := 0 }, { name := "hashIsZero", type := .boolean, accessFlags := 2, slot := 3, constantValue := 0 }, { name := "serialVersionUID", type := .long, accessFlags := 26, slot := 0, constantValue := 0 }, { name := "COMPACT_STRINGS", type := .boolean, accessFlags := 24, slot := 1, constantValue := 0 }, { name := "serialPersistentFields", type := (.array (.object "java/io/ObjectStreamField")), accessFlags := 26, slot := 2, constantValue := 0 }, { name := "REPL", type := .char, accessFlags := 26, slot := 3, constantValue := 0 }, { name := "CASE_INSENSITIVE_ORDER", type := (.object "java/util/Comparator"), accessFlags := 25, slot := 4, constantValue := 0 }, { name := "LATIN1", type := .byte, accessFlags := 24, slot := 5, constantValue := 0 }, { name := "UTF16", type := .byte, accessFlags := 24, slot := 6, constantValue := 0 }]
  methods := #[k7m0, k7m1, k7m2, k7m3, k7m4]
  instanceTypes := #[(.array .byte), .byte, .int, .boolean]
  staticTypes := #[.long, .boolean, (.array (.object "java/io/ObjectStreamField")), .char, (.object "java/util/Comparator"), .byte, .byte]
  resolved := Array.replicate 1451 none
  statics := some 0 }

def pool8 : Array CpInfo := pool [(6, .class_ 8), (1, u "java/lang/Object"), (0, u "<init>"), (0, u "()V"), (1, .class_ 14), (1, u "java/lang/StringUTF16"), (31, u "$assertionsDisabled"), (0, u "Z"), (13, u "HI_BYTE_SHIFT"), (0, u "I"), (2, u "LO_BYTE_SHIFT"), (49, .methodref 12 116), (0, .nameAndType 117 118), (0, u "compress"), (0, u "([CI[BII)I"), (3, u "([CII)[B"), (138, u "coderFromArrayLen"), (0, u "([BI)B"), (106, .class_ 371), (1, u "java/lang/StringUTF16$LinesSpliterator"), (58, u "MAX_LENGTH"), (196, .class_ 628), (0, u "java/lang/StringUTF16$CodePointsSpliterator"), (0, .class_ 630), (0, u "java/lang/StringUTF16$CharsSpliterator")] 4

def k8m0 : Method := { name := "<init>", desc := "()V", sig := { parameters := [], returnType := none }, accessFlags := 0, code := none }
def k8c1 : Code := { maxStack := 2, maxLocals := 2, code := jdk_52_method_15_code, exceptionTable := #[], attributes := #[] }
def k8m1 : Method := { name := "coderFromArrayLen", desc := "([BI)B", sig := { parameters := [(.array .byte), .int], returnType := some .byte }, accessFlags := 8, code := some k8c1 }
def k8c2 : Code := { maxStack := 5, maxLocals := 6, code := jdk_52_method_16_code, exceptionTable := #[], attributes := #[] }
def k8m2 : Method := { name := "compress", desc := "([CII)[B", sig := { parameters := [(.array .char), .int, .int], returnType := some (.array .byte) }, accessFlags := 9, code := some k8c2 }
def k8c3 : Code := { maxStack := 3, maxLocals := 7, code := jdk_52_method_21_code, exceptionTable := #[], attributes := #[] }
def k8m3 : Method := { name := "compress", desc := "([CI[BII)I", sig := { parameters := [(.array .char), .int, (.array .byte), .int, .int], returnType := some .int }, accessFlags := 9, code := some k8c3 }
/-- java/lang/StringUTF16 -/
def k8 : Class := { plain "java/lang/StringUTF16" (some 0) with
  accessFlags := 48
  interfaces := #[]
  cf := some (fileOf pool8 12 #[.nestMembers #[627, 629, 369]] #[{ accessFlags := 0, nameIndex := 9, descriptorIndex := 10, attributes := #[] }, { accessFlags := 8, nameIndex := 261, descriptorIndex := 262, attributes := #[] }, { accessFlags := 9, nameIndex := 117, descriptorIndex := 122, attributes := #[] }, { accessFlags := 9, nameIndex := 117, descriptorIndex := 118, attributes := #[] }] 48 6 #[] #[{ accessFlags := 26, nameIndex := 61, descriptorIndex := 62, attributes := #[] }, { accessFlags := 26, nameIndex := 65, descriptorIndex := 62, attributes := #[] }, { accessFlags := 24, nameIndex := 430, descriptorIndex := 62, attributes := #[] }, { accessFlags := 4120, nameIndex := 46, descriptorIndex := 47, attributes := #[] }])
  fields := #[{ name := "HI_BYTE_SHIFT", type := .int, accessFlags := 26, slot := 0, constantValue := 0 }, { name := "LO_BYTE_SHIFT", type := .int, accessFlags := 26, slot := 1, constantValue := 0 }, { name := "MAX_LENGTH", type := .int, accessFlags := 24, slot := 2, constantValue := 0 }, { name := "$assertionsDisabled", type := .boolean, accessFlags := 4120, slot := 3, constantValue := 0 }]
  methods := #[k8m0, k8m1, k8m2, k8m3]
  instanceTypes := #[]
  staticTypes := #[.int, .int, .int, .boolean]
  resolved := Array.replicate 635 none
  statics := none }

def pool9 : Array CpInfo := pool [(1, .methodref 2 3), (0, .class_ 4), (0, .nameAndType 5 6), (0, u "java/lang/Object"), (0, u "<init>"), (0, u "()V"), (0, .string 8), (0, u "word"), (0, .methodref 10 11), (0, .class_ 12), (0, .nameAndType 13 14), (0, u "java/util/Objects"), (0, u "requireNonNull"), (0, u "(Ljava/lang/Object;Ljava/lang/String;)Ljava/lang/Object;"), (0, .string 16), (0, u "tag"), (0, .methodref 18 19), (0, .class_ 20), (0, .nameAndType 21 22), (0, u "java/lang/String"), (0, u "isEmpty"), (0, u "()Z"), (7, .fieldref 31 32), (0, .class_ 33), (0, .nameAndType 8 34), (0, u "com/example/eager_query/eagerquery/model/Token"), (0, u "Ljava/lang/String;"), (0, .fieldref 31 36), (0, .nameAndType 16 34), (21, u "(Ljava/lang/String;Ljava/lang/String;)V"), (22, u "(Ljava/lang/Object;)Z"), (9, .methodref 18 92), (0, .nameAndType 93 81), (0, u "equals"), (7, u "FUNCTION_TAG_FAMILIES")] 35

def k9c0 : Code := { maxStack := 3, maxLocals := 3, code := prog_22_method_1_code, exceptionTable := #[], attributes := #[] }
def k9m0 : Method := { name := "<init>", desc := "(Ljava/lang/String;Ljava/lang/String;)V", sig := { parameters := [(.object "java/lang/String"), (.object "java/lang/String")], returnType := none }, accessFlags := 1, code := some k9c0 }
def k9c1 : Code := { maxStack := 2, maxLocals := 3, code := prog_22_method_7_code, exceptionTable := #[], attributes := #[] }
def k9m1 : Method := { name := "equals", desc := "(Ljava/lang/Object;)Z", sig := { parameters := [(.object "java/lang/Object")], returnType := some .boolean }, accessFlags := 1, code := some k9c1 }
/-- com/example/eager_query/eagerquery/model/Token -/
def k9 : Class := { plain "com/example/eager_query/eagerquery/model/Token" (some 0) with
  accessFlags := 33
  interfaces := #[]
  cf := some (fileOf pool9 31 #[] #[{ accessFlags := 1, nameIndex := 5, descriptorIndex := 58, attributes := #[] }, { accessFlags := 1, nameIndex := 93, descriptorIndex := 81, attributes := #[] }] 33 2 #[] #[{ accessFlags := 26, nameIndex := 101, descriptorIndex := 34, attributes := #[] }, { accessFlags := 18, nameIndex := 8, descriptorIndex := 34, attributes := #[] }, { accessFlags := 18, nameIndex := 16, descriptorIndex := 34, attributes := #[] }])
  fields := #[{ name := "FUNCTION_TAG_FAMILIES", type := (.object "java/lang/String"), accessFlags := 26, slot := 0, constantValue := 0 }, { name := "word", type := (.object "java/lang/String"), accessFlags := 18, slot := 0, constantValue := 0 }, { name := "tag", type := (.object "java/lang/String"), accessFlags := 18, slot := 1, constantValue := 0 }]
  methods := #[k9m0, k9m1]
  instanceTypes := #[(.object "java/lang/String"), (.object "java/lang/String")]
  staticTypes := #[(.object "java/lang/String")]
  resolved := Array.replicate 137 none
  statics := none }

def pool10 : Array CpInfo := pool [(2, .class_ 4), (1, u "java/lang/Object"), (0, u "<init>"), (0, u "()V"), (35, .class_ 44), (1, u "java/util/Objects"), (0, u "requireNonNull"), (48, u "(Ljava/lang/Object;Ljava/lang/String;)Ljava/lang/Object;")] 89

def k10m0 : Method := { name := "<init>", desc := "()V", sig := { parameters := [], returnType := none }, accessFlags := 2, code := none }
def k10c1 : Code := { maxStack := 3, maxLocals := 2, code := jdk_31_method_11_code, exceptionTable := #[], attributes := #[] }
def k10m1 : Method := { name := "requireNonNull", desc := "(Ljava/lang/Object;Ljava/lang/String;)Ljava/lang/Object;", sig := { parameters := [(.object "java/lang/Object"), (.object "java/lang/String")], returnType := some (.object "java/lang/Object") }, accessFlags := 9, code := some k10c1 }
/-- java/util/Objects -/
def k10 : Class := { plain "java/util/Objects" (some 0) with
  accessFlags := 49
  interfaces := #[]
  cf := some (fileOf pool10 42 #[] #[{ accessFlags := 2, nameIndex := 5, descriptorIndex := 6, attributes := #[] }, { accessFlags := 9, nameIndex := 45, descriptorIndex := 94, attributes := #[] }] 49 2 #[] #[])
  fields := #[]
  methods := #[k10m0, k10m1]
  instanceTypes := #[]
  staticTypes := #[]
  resolved := Array.replicate 184 none
  statics := none }

def pool11 : Array CpInfo := pool [(4, .class_ 6), (1, u "java/lang/Object"), (0, u "<init>"), (0, u "()V"), (5, .class_ 16), (1, u "java/lang/StringLatin1"), (104, u "$assertionsDisabled"), (0, u "Z"), (98, .class_ 223), (1, u "java/lang/StringLatin1$LinesSpliterator"), (57, u "equals"), (0, u "([B[B)Z"), (107, .class_ 391), (0, u "java/lang/StringLatin1$CharsSpliterator")] 3

def k11m0 : Method := { name := "<init>", desc := "()V", sig := { parameters := [], returnType := none }, accessFlags := 0, code := none }
def k11c1 : Code := { maxStack := 3, maxLocals := 3, code := jdk_43_method_13_code, exceptionTable := #[], attributes := #[] }
def k11m1 : Method := { name := "equals", desc := "([B[B)Z", sig := { parameters := [(.array .byte), (.array .byte)], returnType := some .boolean }, accessFlags := 9, code := some k11c1 }
/-- java/lang/StringLatin1 -/
def k11 : Class := { plain "java/lang/StringLatin1" (some 0) with
  accessFlags := 48
  interfaces := #[]
  cf := some (fileOf pool11 14 #[.nestMembers #[390, 221]] #[{ accessFlags := 0, nameIndex := 7, descriptorIndex := 8, attributes := #[] }, { accessFlags := 9, nameIndex := 281, descriptorIndex := 282, attributes := #[] }] 48 4 #[] #[{ accessFlags := 4120, nameIndex := 121, descriptorIndex := 122, attributes := #[] }])
  fields := #[{ name := "$assertionsDisabled", type := .boolean, accessFlags := 4120, slot := 0, constantValue := 0 }]
  methods := #[k11m0, k11m1]
  instanceTypes := #[]
  staticTypes := #[.boolean]
  resolved := Array.replicate 395 none
  statics := none }

def pool12 : Array CpInfo := pool [(1, .methodref 2 3), (0, .class_ 4), (0, .nameAndType 5 6), (0, u "java/lang/Object"), (0, u "<init>"), (0, u "()V"), (1, .class_ 10), (1, u "java/lang/Number"), (2, .class_ 14), (0, u "java/io/Serializable"), (0, u "serialVersionUID"), (0, u "J")] 20

def k12c0 : Code := { maxStack := 1, maxLocals := 1, code := jdk_18_method_1_code, exceptionTable := #[], attributes := #[] }
def k12m0 : Method := { name := "<init>", desc := "()V", sig := { parameters := [], returnType := none }, accessFlags := 1, code := some k12c0 }
/-- java/lang/Number -/
def k12 : Class := { plain "java/lang/Number" (some 0) with
  accessFlags := 1057
  interfaces := #[2]
  cf := some (fileOf pool12 8 #[] #[{ accessFlags := 1, nameIndex := 5, descriptorIndex := 6, attributes := #[] }] 1057 2 #[13] #[{ accessFlags := 26, nameIndex := 15, descriptorIndex := 16, attributes := #[] }])
  fields := #[{ name := "serialVersionUID", type := .long, accessFlags := 26, slot := 0, constantValue := 0 }]
  methods := #[k12m0]
  instanceTypes := #[]
  staticTypes := #[.long]
  resolved := Array.replicate 37 none
  statics := none }

def pool13 : Array CpInfo := pool [(1, .class_ 2), (0, u "java/lang/Integer"), (16, u "digits"), (0, u "[C"), (46, u "<init>"), (17, u "DigitOnes"), (0, u "[B"), (2, u "DigitTens"), (10, .nameAndType 67 101), (0, u "()V"), (85, u "valueOf"), (0, u "(I)Ljava/lang/Integer;"), (0, .class_ 190), (0, u "java/lang/Integer$IntegerCache"), (0, .fieldref 189 192), (0, .nameAndType 193 194), (0, u "high"), (0, u "I"), (0, .fieldref 189 196), (0, .nameAndType 197 198), (0, u "cache"), (0, u "[Ljava/lang/Integer;"), (0, .methodref 1 200), (0, .nameAndType 67 201), (0, u "(I)V"), (0, .methodref 203 100), (0, .class_ 204), (0, u "java/lang/Number"), (0, .fieldref 1 206), (0, .nameAndType 207 194), (0, u "value"), (94, u "TYPE"), (0, u "Ljava/lang/Class;"), (0, .class_ 305), (0, u "java/lang/Comparable"), (0, .class_ 307), (0, u "java/lang/constant/Constable"), (0, .class_ 309), (0, u "java/lang/constant/ConstantDesc"), (0, u "MIN_VALUE"), (1, u "MAX_VALUE"), (3, u "SIZE"), (1, u "BYTES"), (1, u "serialVersionUID"), (0, u "J")] 131

def k13c0 : Code := { maxStack := 3, maxLocals := 1, code := jdk_33_method_22_code, exceptionTable := #[], attributes := #[] }
def k13m0 : Method := { name := "valueOf", desc := "(I)Ljava/lang/Integer;", sig := { parameters := [.int], returnType := some (.object "java/lang/Integer") }, accessFlags := 9, code := some k13c0 }
def k13c1 : Code := { maxStack := 2, maxLocals := 2, code := jdk_33_method_23_code, exceptionTable := #[], attributes := #[] }
def k13m1 : Method := { name := "<init>", desc := "(I)V", sig := { parameters := [.int], returnType := none }, accessFlags := 1, code := some k13c1 }
/-- java/lang/Integer -/
def k13 : Class := { plain "java/lang/Integer" (some 12) with
  accessFlags := 49
  interfaces := #[3, 5, 6]
  cf := some (fileOf pool13 1 #[.nestMembers #[189]] #[{ accessFlags := 9, nameIndex := 187, descriptorIndex := 188, attributes := #[] }, { accessFlags := 1, nameIndex := 67, descriptorIndex := 201, attributes := #[] }] 49 203 #[304, 306, 308] #[{ accessFlags := 25, nameIndex := 310, descriptorIndex := 194, attributes := #[] }, { accessFlags := 25, nameIndex := 312, descriptorIndex := 194, attributes := #[] }, { accessFlags := 25, nameIndex := 302, descriptorIndex := 303, attributes := #[] }, { accessFlags := 24, nameIndex := 19, descriptorIndex := 20, attributes := #[] }, { accessFlags := 24, nameIndex := 89, descriptorIndex := 86, attributes := #[] }, { accessFlags := 24, nameIndex := 85, descriptorIndex := 86, attributes := #[] }, { accessFlags := 18, nameIndex := 207, descriptorIndex := 194, attributes := #[] }, { accessFlags := 25, nameIndex := 316, descriptorIndex := 194, attributes := #[] }, { accessFlags := 25, nameIndex := 318, descriptorIndex := 194, attributes := #[] }, { accessFlags := 26, nameIndex := 320, descriptorIndex := 321, attributes := #[] }])
  fields := #[{ name := "MIN_VALUE", type := .int, accessFlags := 25, slot := 0, constantValue := 0 }, { name := "MAX_VALUE", type := .int, accessFlags := 25, slot := 1, constantValue := 0 }, { name := "TYPE", type := (.object "java/lang/Class"), accessFlags := 25, slot := 2, constantValue := 0 }, { name := "digits", type := (.array .char), accessFlags := 24, slot := 3, constantValue := 0 }, { name := "DigitTens", type := (.array .byte), accessFlags := 24, slot := 4, constantValue := 0 }, { name := "DigitOnes", type := (.array .byte), accessFlags := 24, slot := 5, constantValue := 0 }, { name := "value", type := .int, accessFlags := 18, slot := 0, constantValue := 0 }, { name := "SIZE", type := .int, accessFlags := 25, slot := 6, constantValue := 0 }, { name := "BYTES", type := .int, accessFlags := 25, slot := 7, constantValue := 0 }, { name := "serialVersionUID", type := .long, accessFlags := 26, slot := 8, constantValue := 0 }]
  methods := #[k13m0, k13m1]
  instanceTypes := #[.int]
  staticTypes := #[.int, .int, (.object "java/lang/Class"), (.array .char), (.array .byte), (.array .byte), .int, .int, .long]
  resolved := Array.replicate 453 none
  statics := none }

def pool14 : Array CpInfo := pool [(2, .class_ 4), (1, u "java/lang/Object"), (0, u "<init>"), (0, u "()V"), (0, .class_ 8), (0, u "java/lang/Integer"), (7, .class_ 18), (1, u "java/lang/Integer$IntegerCache"), (0, u "$assertionsDisabled"), (0, u "Z"), (26, u "high"), (0, u "I"), (8, u "archivedCache"), (0, u "[Ljava/lang/Integer;"), (12, u "cache"), (0, u "low")] 27

def k14m0 : Method := { name := "<init>", desc := "()V", sig := { parameters := [], returnType := none }, accessFlags := 2, code := none }
/-- java/lang/Integer$IntegerCache -/
def k14 : Class := { plain "java/lang/Integer$IntegerCache" (some 0) with
  accessFlags := 48
  interfaces := #[]
  cf := some (fileOf pool14 16 #[.nestHost 7] #[{ accessFlags := 2, nameIndex := 5, descriptorIndex := 6, attributes := #[] }] 48 2 #[] #[{ accessFlags := 24, nameIndex := 72, descriptorIndex := 48, attributes := #[] }, { accessFlags := 24, nameIndex := 47, descriptorIndex := 48, attributes := #[] }, { accessFlags := 24, nameIndex := 71, descriptorIndex := 58, attributes := #[] }, { accessFlags := 8, nameIndex := 57, descriptorIndex := 58, attributes := #[] }, { accessFlags := 4120, nameIndex := 19, descriptorIndex := 20, attributes := #[] }])
  fields := #[{ name := "low", type := .int, accessFlags := 24, slot := 0, constantValue := 0 }, { name := "high", type := .int, accessFlags := 24, slot := 1, constantValue := 0 }, { name := "cache", type := (.array (.object "java/lang/Integer")), accessFlags := 24, slot := 2, constantValue := 0 }, { name := "archivedCache", type := (.array (.object "java/lang/Integer")), accessFlags := 8, slot := 3, constantValue := 0 }, { name := "$assertionsDisabled", type := .boolean, accessFlags := 4120, slot := 4, constantValue := 0 }]
  methods := #[k14m0]
  instanceTypes := #[]
  staticTypes := #[.int, .int, (.array (.object "java/lang/Integer")), (.array (.object "java/lang/Integer")), .boolean]
  resolved := Array.replicate 100 none
  statics := some 1 }

def pool15 : Array CpInfo := pool [(2, .class_ 4), (1, u "java/lang/Object"), (0, u "<init>"), (0, u "()V"), (17, .class_ 26), (1, u "jdk/internal/util/Preconditions"), (28, .class_ 56), (0, u "jdk/internal/util/Preconditions$4"), (57, .class_ 115), (0, u "jdk/internal/util/Preconditions$1"), (7, u "SIOOBE_FORMATTER"), (0, u "Ljava/util/function/BiFunction;"), (0, .class_ 126), (0, u "jdk/internal/util/Preconditions$2"), (3, u "AIOOBE_FORMATTER"), (0, .class_ 132), (0, u "jdk/internal/util/Preconditions$3"), (3, u "IOOBE_FORMATTER")] 57

def k15m0 : Method := { name := "<init>", desc := "()V", sig := { parameters := [], returnType := none }, accessFlags := 1, code := none }
/-- jdk/internal/util/Preconditions -/
def k15 : Class := { plain "jdk/internal/util/Preconditions" (some 0) with
  accessFlags := 33
  interfaces := #[]
  cf := some (fileOf pool15 24 #[.nestMembers #[55, 131, 125, 114]] #[{ accessFlags := 1, nameIndex := 5, descriptorIndex := 6, attributes := #[] }] 33 2 #[] #[{ accessFlags := 25, nameIndex := 123, descriptorIndex := 124, attributes := #[] }, { accessFlags := 25, nameIndex := 130, descriptorIndex := 124, attributes := #[] }, { accessFlags := 25, nameIndex := 136, descriptorIndex := 124, attributes := #[] }])
  fields := #[{ name := "SIOOBE_FORMATTER", type := (.object "java/util/function/BiFunction"), accessFlags := 25, slot := 0, constantValue := 0 }, { name := "AIOOBE_FORMATTER", type := (.object "java/util/function/BiFunction"), accessFlags := 25, slot := 1, constantValue := 0 }, { name := "IOOBE_FORMATTER", type := (.object "java/util/function/BiFunction"), accessFlags := 25, slot := 2, constantValue := 0 }]
  methods := #[k15m0]
  instanceTypes := #[]
  staticTypes := #[(.object "java/util/function/BiFunction"), (.object "java/util/function/BiFunction"), (.object "java/util/function/BiFunction")]
  resolved := Array.replicate 194 none
  statics := some 2 }

def pool16 : Array CpInfo := pool [(9, u "<init>"), (6, .class_ 18), (1, u "java/lang/Object"), (0, u "()V"), (1, .class_ 23), (1, u "jdk/internal/util/ArraysSupport"), (0, u "LOG2_ARRAY_LONG_INDEX_SCALE"), (0, u "I"), (2, u "U"), (0, u "Ljdk/internal/misc/Unsafe;"), (8, u "BIG_ENDIAN"), (0, u "Z"), (8, u "LOG2_BYTE_BIT_SIZE"), (4, u "LOG2_ARRAY_INT_INDEX_SCALE"), (54, u "JLA"), (0, u "Ljdk/internal/access/JavaLangAccess;"), (11, u "LOG2_ARRAY_BOOLEAN_INDEX_SCALE"), (9, u "LOG2_ARRAY_BYTE_INDEX_SCALE"), (5, u "LOG2_ARRAY_CHAR_INDEX_SCALE"), (5, u "LOG2_ARRAY_SHORT_INDEX_SCALE"), (18, u "LOG2_ARRAY_FLOAT_INDEX_SCALE"), (24, u "LOG2_ARRAY_DOUBLE_INDEX_SCALE"), (89, u "T_BOOLEAN"), (2, u "T_CHAR"), (1, u "T_FLOAT"), (1, u "T_DOUBLE"), (1, u "T_BYTE"), (1, u "T_SHORT"), (1, u "T_INT"), (1, u "T_LONG"), (1, u "SOFT_MAX_ARRAY_LENGTH")] 83

def k16m0 : Method := { name := "<init>", desc := "()V", sig := { parameters := [], returnType := none }, accessFlags := 2, code := none }
/-- jdk/internal/util/ArraysSupport -/
def k16 : Class := { plain "jdk/internal/util/ArraysSupport" (some 0) with
  accessFlags := 33
  interfaces := #[]
  cf := some (fileOf pool16 21 #[] #[{ accessFlags := 2, nameIndex := 9, descriptorIndex := 19, attributes := #[] }] 33 16 #[] #[{ accessFlags := 24, nameIndex := 28, descriptorIndex := 29, attributes := #[] }, { accessFlags := 26, nameIndex := 38, descriptorIndex := 39, attributes := #[] }, { accessFlags := 25, nameIndex := 121, descriptorIndex := 25, attributes := #[] }, { accessFlags := 25, nameIndex := 131, descriptorIndex := 25, attributes := #[] }, { accessFlags := 25, nameIndex := 137, descriptorIndex := 25, attributes := #[] }, { accessFlags := 25, nameIndex := 143, descriptorIndex := 25, attributes := #[] }, { accessFlags := 25, nameIndex := 53, descriptorIndex := 25, attributes := #[] }, { accessFlags := 25, nameIndex := 24, descriptorIndex := 25, attributes := #[] }, { accessFlags := 25, nameIndex := 162, descriptorIndex := 25, attributes := #[] }, { accessFlags := 25, nameIndex := 187, descriptorIndex := 25, attributes := #[] }, { accessFlags := 26, nameIndex := 48, descriptorIndex := 25, attributes := #[] }, { accessFlags := 25, nameIndex := 277, descriptorIndex := 25, attributes := #[] }, { accessFlags := 25, nameIndex := 280, descriptorIndex := 25, attributes := #[] }, { accessFlags := 25, nameIndex := 282, descriptorIndex := 25, attributes := #[] }, { accessFlags := 25, nameIndex := 284, descriptorIndex := 25, attributes := #[] }, { accessFlags := 25, nameIndex := 286, descriptorIndex := 25, attributes := #[] }, { accessFlags := 25, nameIndex := 288, descriptorIndex := 25, attributes := #[] }, { accessFlags := 25, nameIndex := 290, descriptorIndex := 25, attributes := #[] }, { accessFlags := 25, nameIndex := 292, descriptorIndex := 25, attributes := #[] }, { accessFlags := 26, nameIndex := 108, descriptorIndex := 109, attributes := #[] }, { accessFlags := 25, nameIndex := 294, descriptorIndex := 25, attributes := #[] }])
  fields := #[{ name := "U", type := (.object "jdk/internal/misc/Unsafe"), accessFlags := 24, slot := 0, constantValue := 0 }, { name := "BIG_ENDIAN", type := .boolean, accessFlags := 26, slot := 1, constantValue := 0 }, { name := "LOG2_ARRAY_BOOLEAN_INDEX_SCALE", type := .int, accessFlags := 25, slot := 2, constantValue := 0 }, { name := "LOG2_ARRAY_BYTE_INDEX_SCALE", type := .int, accessFlags := 25, slot := 3, constantValue := 0 }, { name := "LOG2_ARRAY_CHAR_INDEX_SCALE", type := .int, accessFlags := 25, slot := 4, constantValue := 0 }, { name := "LOG2_ARRAY_SHORT_INDEX_SCALE", type := .int, accessFlags := 25, slot := 5, constantValue := 0 }, { name := "LOG2_ARRAY_INT_INDEX_SCALE", type := .int, accessFlags := 25, slot := 6, constantValue := 0 }, { name := "LOG2_ARRAY_LONG_INDEX_SCALE", type := .int, accessFlags := 25, slot := 7, constantValue := 0 }, { name := "LOG2_ARRAY_FLOAT_INDEX_SCALE", type := .int, accessFlags := 25, slot := 8, constantValue := 0 }, { name := "LOG2_ARRAY_DOUBLE_INDEX_SCALE", type := .int, accessFlags := 25, slot := 9, constantValue := 0 }, { name := "LOG2_BYTE_BIT_SIZE", type := .int, accessFlags := 26, slot := 10, constantValue := 0 }, { name := "T_BOOLEAN", type := .int, accessFlags := 25, slot := 11, constantValue := 0 }, { name := "T_CHAR", type := .int, accessFlags := 25, slot := 12, constantValue := 0 }, { name := "T_FLOAT", type := .int, accessFlags := 25, slot := 13, constantValue := 0 }, { name := "T_DOUBLE", type := .int, accessFlags := 25, slot := 14, constantValue := 0 }, { name := "T_BYTE", type := .int, accessFlags := 25, slot := 15, constantValue := 0 }, { name := "T_SHORT", type := .int, accessFlags := 25, slot := 16, constantValue := 0 }, { name := "T_INT", type := .int, accessFlags := 25, slot := 17, constantValue := 0 }, { name := "T_LONG", type := .int, accessFlags := 25, slot := 18, constantValue := 0 }, { name := "JLA", type := (.object "jdk/internal/access/JavaLangAccess"), accessFlags := 26, slot := 19, constantValue := 0 }, { name := "SOFT_MAX_ARRAY_LENGTH", type := .int, accessFlags := 25, slot := 20, constantValue := 0 }]
  methods := #[k16m0]
  instanceTypes := #[]
  staticTypes := #[(.object "jdk/internal/misc/Unsafe"), .boolean, .int, .int, .int, .int, .int, .int, .int, .int, .int, .int, .int, .int, .int, .int, .int, .int, .int, (.object "jdk/internal/access/JavaLangAccess"), .int]
  resolved := Array.replicate 378 none
  statics := none }

def pool17 : Array CpInfo := pool [(1, u "java/lang/Cloneable"), (0, .class_ 1), (0, u "java/lang/Object"), (0, .class_ 3)] 3

/-- java/lang/Cloneable -/
def k17 : Class := { plain "java/lang/Cloneable" (some 0) with
  accessFlags := 1537
  interfaces := #[]
  cf := some (fileOf pool17 2 #[] #[] 1537 4 #[] #[])
  fields := #[]
  methods := #[]
  instanceTypes := #[]
  staticTypes := #[]
  resolved := Array.replicate 8 none
  statics := none }

/-- the primitive byte -/
def k18 : Class := { plain "byte" none with kind := .primitive 'B', accessFlags := 0x411 }
/-- [B -/
def k19 : Class := { plain "[B" (some 0) with kind := .array 18 .byte, interfaces := #[17, 2], accessFlags := 1041 }

/-- the primitive char -/
def k20 : Class := { plain "char" none with kind := .primitive 'C', accessFlags := 0x411 }
/-- [C -/
def k21 : Class := { plain "[C" (some 0) with kind := .array 20 .char, interfaces := #[17, 2], accessFlags := 1041 }

/-- the primitive int -/
def k22 : Class := { plain "int" none with kind := .primitive 'I', accessFlags := 0x411 }
/-- [I -/
def k23 : Class := { plain "[I" (some 0) with kind := .array 22 .int, interfaces := #[17, 2], accessFlags := 1041 }

/-- [Ljava/lang/Integer; -/
def k24 : Class := { plain "[Ljava/lang/Integer;" (some 0) with kind := .array 13 (.object "java/lang/Integer"), interfaces := #[17, 2], accessFlags := 1041 }

def heap : Heap := #[{ cls := 7, slots := #[.long 0, .int 1, .null, .int 0, .null, .int 0, .int 0], vm := .statics 7 },
  { cls := 14, slots := #[.int 0, .int 127, .ref 3, .null, .int 0], vm := .statics 14 },
  { cls := 15, slots := #[.null, .null, .null], vm := .statics 15 },
  { cls := 24, slots := (Array.range 256).map fun j => Value.ref (4 + j), vm := .none }] ++ ((Array.range 256).map fun j => ({ cls := 13, slots := #[.int (Int32.ofNat j - 128)], vm := .none } : Cell))
def classes : Array Class := #[k0, k1, k2, k3, k4, k5, k6, k7, k8, k9, k10, k11, k12, k13, k14, k15, k16, k17, k18, k19, k20, k21, k22, k23, k24]
def interned : List (Array UInt16 × Addr) := []
def slotsUsed : Nat := 527
def theMethod : MethodId := ⟨1, 3⟩
def args0 : Array Value := #[.int 5, .int 5, .int 5, .int 5, .int 5]
def aboutOver (below : List Frame) : State where
  vm := { classes := classes, interned := interned.toArray }
  heap := heap
  slotsUsed := slotsUsed
  threads := #[{ frames := .invoking theMethod args0 :: below }]
def below0 : List Frame := [.native { method := ⟨0, 0⟩, args := #[] }]
def about1 : State := aboutOver below0
def p0 : Program := .bare "" "" ""
def e0 : Env := launch0.env 0 0 0
theorem w_frames : about1.frames = Frame.invoking theMethod args0 :: below0 := rfl
set_option maxRecDepth 65536 in
theorem w_args : argsFit about1.vm theMethod args0 = true := by decide +kernel
set_option maxRecDepth 65536 in
theorem w_heap : heapFits about1 = true := by decide +kernel
set_option maxRecDepth 65536 in
theorem w_runnable : about1.curStatus? = some .runnable := by decide +kernel
set_option maxRecDepth 65536 in
theorem w_alone : about1.alone = true := by decide +kernel
set_option maxRecDepth 65536 in
theorem w_named : about1.methodNamed? x = some theMethod := by decide +kernel
set_option maxRecDepth 65536 in
theorem w_hears : about1.hears theMethod below0 = true := by decide +kernel
set_option maxRecDepth 65536 in
theorem w_ripe : about1.ripe theMethod args0 below0 = true := by decide +kernel
theorem w_running : about1.status = .running := rfl
set_option maxRecDepth 65536 in
theorem w_room : about1.hasRoom e0.platform room_1 = true :=
  launch0.hasRoom_least _ room_1 (by decide +kernel) (by decide +kernel) (by decide +kernel) (by decide +kernel) (by decide +kernel) (by decide +kernel)
theorem allAtoms_all (ts : List Jvm.Cond) (a : Array Jvm.Value) (st : Jvm.State) : (allAtoms ts).before a st = ts.all (fun c => c.before a st) := by
  induction ts with
  | nil => rfl
  | cons c t ih =>
    show (Jvm.Cond.and c (allAtoms t)).before a st = _
    rw [Jvm.Cond.before_and, ih, List.all_cons]
def words1 : List Jvm.Cond := Jvm.Cond.code x code maxLocals ret :: tables_1
/-- a 'code' word, met by the world's own term for the bytes: nothing is compared byte by byte -/
theorem code_word {y : MethodName} {bytes : ByteArray} {mx : Nat} {rt : Option FieldType} {a : Array Value} {s : State} {m : MethodId} {meth : Method} {c : Code} (h1 : s.methodNamed? y = some m) (h2 : s.vm.method? m = some meth) (h3 : meth.code = some c) (h4 : c.code = bytes)
    (h5 : (c.maxLocals == mx && c.exceptionTable.isEmpty && decide (c.maxStack ≤ mostOperands) && decide (meth.sig.returnType = rt) && !meth.locks && decide (parseMethodDescriptor y.desc = some meth.sig)) = true) : (Jvm.Cond.code y bytes mx rt).before a s = true := by
  simp only [Bool.and_eq_true, beq_iff_eq, Bool.not_eq_true', decide_eq_true_eq] at h5
  obtain ⟨⟨⟨⟨⟨g1, g2⟩, g3⟩, g4⟩, g5⟩, g6⟩ := h5
  simp [Cond.before, Cond.holds, Cond.value, h1, h2, h3, h4, g1, g2, g3, g4, g5, g6]
def isCode : Jvm.Cond → Bool
  | .code _ _ _ _ => true
  | _ => false
theorem all_split {L : List Jvm.Cond} {P : Jvm.Cond → Bool} (h1 : L.all (fun c => isCode c || P c) = true) (h2 : ∀ c ∈ L.filter isCode, P c = true) : L.all P = true := by
  refine List.all_eq_true.mpr fun c hc => ?_
  have h := List.all_eq_true.mp h1 c hc
  rcases Bool.eq_false_or_eq_true (isCode c) with hi | hi
  · exact h2 c (List.mem_filter.mpr ⟨hc, hi⟩)
  · simpa [hi] using h
set_option maxRecDepth 65536 in
theorem w_c0 : (Jvm.Cond.code x code maxLocals ret).before args0 about1 = true := code_word (m := ⟨1, 3⟩) (meth := k1m3) (c := k1c3) (by decide +kernel) rfl rfl rfl (by decide +kernel)
set_option maxRecDepth 65536 in
theorem w_c1 : (Jvm.Cond.code ({ cls := "com/example/eager_query/eagerquery/model/TokenEqualsPinLaw", name := "make", desc := "(ICC)Ljava/lang/String;" } : Jvm.MethodName) method_2_code (4 : Nat) (Option.some (Jvm.ClassFile.FieldType.object "java/lang/String"))).before args0 about1 = true := code_word (m := ⟨1, 1⟩) (meth := k1m1) (c := k1c1) (by decide +kernel) rfl rfl rfl (by decide +kernel)
set_option maxRecDepth 65536 in
theorem w_c2 : (Jvm.Cond.code ({ cls := "java/lang/String", name := "<init>", desc := "([C)V" } : Jvm.MethodName) jdk_42_method_3_code (2 : Nat) (Option.none : Option Jvm.ClassFile.FieldType)).before args0 about1 = true := code_word (m := ⟨7, 1⟩) (meth := k7m1) (c := k7c1) (by decide +kernel) rfl rfl rfl (by decide +kernel)
set_option maxRecDepth 65536 in
theorem w_c3 : (Jvm.Cond.code ({ cls := "java/lang/String", name := "<init>", desc := "([CIILjava/lang/Void;)V" } : Jvm.MethodName) jdk_42_method_149_code (6 : Nat) (Option.none : Option Jvm.ClassFile.FieldType)).before args0 about1 = true := code_word (m := ⟨7, 4⟩) (meth := k7m4) (c := k7c4) (by decide +kernel) rfl rfl rfl (by decide +kernel)
set_option maxRecDepth 65536 in
theorem w_c4 : (Jvm.Cond.code ({ cls := "java/lang/Object", name := "<init>", desc := "()V" } : Jvm.MethodName) object_method_1_code (1 : Nat) (Option.none : Option Jvm.ClassFile.FieldType)).before args0 about1 = true := code_word (m := ⟨0, 0⟩) (meth := k0m0) (c := k0c0) (by decide +kernel) rfl rfl rfl (by decide +kernel)
set_option maxRecDepth 65536 in
theorem w_c5 : (Jvm.Cond.code ({ cls := "java/lang/StringUTF16", name := "compress", desc := "([CII)[B" } : Jvm.MethodName) jdk_52_method_16_code (6 : Nat) (Option.some (Jvm.ClassFile.FieldType.array Jvm.ClassFile.FieldType.byte))).before args0 about1 = true := code_word (m := ⟨8, 2⟩) (meth := k8m2) (c := k8c2) (by decide +kernel) rfl rfl rfl (by decide +kernel)
set_option maxRecDepth 65536 in
theorem w_c6 : (Jvm.Cond.code ({ cls := "java/lang/StringUTF16", name := "compress", desc := "([CI[BII)I" } : Jvm.MethodName) jdk_52_method_21_code (7 : Nat) (Option.some Jvm.ClassFile.FieldType.int)).before args0 about1 = true := code_word (m := ⟨8, 3⟩) (meth := k8m3) (c := k8c3) (by decide +kernel) rfl rfl rfl (by decide +kernel)
set_option maxRecDepth 65536 in
theorem w_c7 : (Jvm.Cond.code ({ cls := "java/lang/StringUTF16", name := "coderFromArrayLen", desc := "([BI)B" } : Jvm.MethodName) jdk_52_method_15_code (2 : Nat) (Option.some Jvm.ClassFile.FieldType.byte)).before args0 about1 = true := code_word (m := ⟨8, 1⟩) (meth := k8m1) (c := k8c1) (by decide +kernel) rfl rfl rfl (by decide +kernel)
set_option maxRecDepth 65536 in
theorem w_c8 : (Jvm.Cond.code ({ cls := "com/example/eager_query/eagerquery/model/Token", name := "<init>", desc := "(Ljava/lang/String;Ljava/lang/String;)V" } : Jvm.MethodName) prog_22_method_1_code (3 : Nat) (Option.none : Option Jvm.ClassFile.FieldType)).before args0 about1 = true := code_word (m := ⟨9, 0⟩) (meth := k9m0) (c := k9c0) (by decide +kernel) rfl rfl rfl (by decide +kernel)
set_option maxRecDepth 65536 in
theorem w_c9 : (Jvm.Cond.code ({ cls := "java/util/Objects", name := "requireNonNull", desc := "(Ljava/lang/Object;Ljava/lang/String;)Ljava/lang/Object;" } : Jvm.MethodName) jdk_31_method_11_code (2 : Nat) (Option.some (Jvm.ClassFile.FieldType.object "java/lang/Object"))).before args0 about1 = true := code_word (m := ⟨10, 1⟩) (meth := k10m1) (c := k10c1) (by decide +kernel) rfl rfl rfl (by decide +kernel)
set_option maxRecDepth 65536 in
theorem w_c10 : (Jvm.Cond.code ({ cls := "java/lang/String", name := "isEmpty", desc := "()Z" } : Jvm.MethodName) jdk_42_method_55_code (1 : Nat) (Option.some Jvm.ClassFile.FieldType.boolean)).before args0 about1 = true := code_word (m := ⟨7, 2⟩) (meth := k7m2) (c := k7c2) (by decide +kernel) rfl rfl rfl (by decide +kernel)
set_option maxRecDepth 65536 in
theorem w_c11 : (Jvm.Cond.code ({ cls := "com/example/eager_query/eagerquery/model/TokenEqualsPinLaw", name := "same", desc := "(ICCICC)Z" } : Jvm.MethodName) method_3_code (6 : Nat) (Option.some Jvm.ClassFile.FieldType.boolean)).before args0 about1 = true := code_word (m := ⟨1, 2⟩) (meth := k1m2) (c := k1c2) (by decide +kernel) rfl rfl rfl (by decide +kernel)
set_option maxRecDepth 65536 in
theorem w_c12 : (Jvm.Cond.code ({ cls := "com/example/eager_query/eagerquery/model/Token", name := "equals", desc := "(Ljava/lang/Object;)Z" } : Jvm.MethodName) prog_22_method_7_code (3 : Nat) (Option.some Jvm.ClassFile.FieldType.boolean)).before args0 about1 = true := code_word (m := ⟨9, 1⟩) (meth := k9m1) (c := k9c1) (by decide +kernel) rfl rfl rfl (by decide +kernel)
set_option maxRecDepth 65536 in
theorem w_c13 : (Jvm.Cond.code ({ cls := "java/lang/String", name := "equals", desc := "(Ljava/lang/Object;)Z" } : Jvm.MethodName) jdk_42_method_66_code (3 : Nat) (Option.some Jvm.ClassFile.FieldType.boolean)).before args0 about1 = true := code_word (m := ⟨7, 3⟩) (meth := k7m3) (c := k7c3) (by decide +kernel) rfl rfl rfl (by decide +kernel)
set_option maxRecDepth 65536 in
theorem w_c14 : (Jvm.Cond.code ({ cls := "java/lang/StringLatin1", name := "equals", desc := "([B[B)Z" } : Jvm.MethodName) jdk_43_method_13_code (3 : Nat) (Option.some Jvm.ClassFile.FieldType.boolean)).before args0 about1 = true := code_word (m := ⟨11, 1⟩) (meth := k11m1) (c := k11c1) (by decide +kernel) rfl rfl rfl (by decide +kernel)
set_option maxRecDepth 65536 in
theorem w_c15 : (Jvm.Cond.code ({ cls := "java/lang/Integer", name := "valueOf", desc := "(I)Ljava/lang/Integer;" } : Jvm.MethodName) jdk_33_method_22_code (1 : Nat) (Option.some (Jvm.ClassFile.FieldType.object "java/lang/Integer"))).before args0 about1 = true := code_word (m := ⟨13, 0⟩) (meth := k13m0) (c := k13c0) (by decide +kernel) rfl rfl rfl (by decide +kernel)
set_option maxRecDepth 65536 in
theorem w_c16 : (Jvm.Cond.code ({ cls := "java/lang/Integer", name := "<init>", desc := "(I)V" } : Jvm.MethodName) jdk_33_method_23_code (2 : Nat) (Option.none : Option Jvm.ClassFile.FieldType)).before args0 about1 = true := code_word (m := ⟨13, 1⟩) (meth := k13m1) (c := k13c1) (by decide +kernel) rfl rfl rfl (by decide +kernel)
set_option maxRecDepth 65536 in
theorem w_c17 : (Jvm.Cond.code ({ cls := "java/lang/Number", name := "<init>", desc := "()V" } : Jvm.MethodName) jdk_18_method_1_code (1 : Nat) (Option.none : Option Jvm.ClassFile.FieldType)).before args0 about1 = true := code_word (m := ⟨12, 0⟩) (meth := k12m0) (c := k12c0) (by decide +kernel) rfl rfl rfl (by decide +kernel)
def codes1 : List Jvm.Cond := [Jvm.Cond.code x code maxLocals ret, Jvm.Cond.code ({ cls := "com/example/eager_query/eagerquery/model/TokenEqualsPinLaw", name := "make", desc := "(ICC)Ljava/lang/String;" } : Jvm.MethodName) method_2_code (4 : Nat) (Option.some (Jvm.ClassFile.FieldType.object "java/lang/String")), Jvm.Cond.code ({ cls := "java/lang/String", name := "<init>", desc := "([C)V" } : Jvm.MethodName) jdk_42_method_3_code (2 : Nat) (Option.none : Option Jvm.ClassFile.FieldType), Jvm.Cond.code ({ cls := "java/lang/String", name := "<init>", desc := "([CIILjava/lang/Void;)V" } : Jvm.MethodName) jdk_42_method_149_code (6 : Nat) (Option.none : Option Jvm.ClassFile.FieldType), Jvm.Cond.code ({ cls := "java/lang/Object", name := "<init>", desc := "()V" } : Jvm.MethodName) object_method_1_code (1 : Nat) (Option.none : Option Jvm.ClassFile.FieldType), Jvm.Cond.code ({ cls := "java/lang/StringUTF16", name := "compress", desc := "([CII)[B" } : Jvm.MethodName) jdk_52_method_16_code (6 : Nat) (Option.some (Jvm.ClassFile.FieldType.array Jvm.ClassFile.FieldType.byte)), Jvm.Cond.code ({ cls := "java/lang/StringUTF16", name := "compress", desc := "([CI[BII)I" } : Jvm.MethodName) jdk_52_method_21_code (7 : Nat) (Option.some Jvm.ClassFile.FieldType.int), Jvm.Cond.code ({ cls := "java/lang/StringUTF16", name := "coderFromArrayLen", desc := "([BI)B" } : Jvm.MethodName) jdk_52_method_15_code (2 : Nat) (Option.some Jvm.ClassFile.FieldType.byte), Jvm.Cond.code ({ cls := "com/example/eager_query/eagerquery/model/Token", name := "<init>", desc := "(Ljava/lang/String;Ljava/lang/String;)V" } : Jvm.MethodName) prog_22_method_1_code (3 : Nat) (Option.none : Option Jvm.ClassFile.FieldType), Jvm.Cond.code ({ cls := "java/util/Objects", name := "requireNonNull", desc := "(Ljava/lang/Object;Ljava/lang/String;)Ljava/lang/Object;" } : Jvm.MethodName) jdk_31_method_11_code (2 : Nat) (Option.some (Jvm.ClassFile.FieldType.object "java/lang/Object")), Jvm.Cond.code ({ cls := "java/lang/String", name := "isEmpty", desc := "()Z" } : Jvm.MethodName) jdk_42_method_55_code (1 : Nat) (Option.some Jvm.ClassFile.FieldType.boolean), Jvm.Cond.code ({ cls := "com/example/eager_query/eagerquery/model/TokenEqualsPinLaw", name := "same", desc := "(ICCICC)Z" } : Jvm.MethodName) method_3_code (6 : Nat) (Option.some Jvm.ClassFile.FieldType.boolean), Jvm.Cond.code ({ cls := "com/example/eager_query/eagerquery/model/Token", name := "equals", desc := "(Ljava/lang/Object;)Z" } : Jvm.MethodName) prog_22_method_7_code (3 : Nat) (Option.some Jvm.ClassFile.FieldType.boolean), Jvm.Cond.code ({ cls := "java/lang/String", name := "equals", desc := "(Ljava/lang/Object;)Z" } : Jvm.MethodName) jdk_42_method_66_code (3 : Nat) (Option.some Jvm.ClassFile.FieldType.boolean), Jvm.Cond.code ({ cls := "java/lang/StringLatin1", name := "equals", desc := "([B[B)Z" } : Jvm.MethodName) jdk_43_method_13_code (3 : Nat) (Option.some Jvm.ClassFile.FieldType.boolean), Jvm.Cond.code ({ cls := "java/lang/Integer", name := "valueOf", desc := "(I)Ljava/lang/Integer;" } : Jvm.MethodName) jdk_33_method_22_code (1 : Nat) (Option.some (Jvm.ClassFile.FieldType.object "java/lang/Integer")), Jvm.Cond.code ({ cls := "java/lang/Integer", name := "<init>", desc := "(I)V" } : Jvm.MethodName) jdk_33_method_23_code (2 : Nat) (Option.none : Option Jvm.ClassFile.FieldType), Jvm.Cond.code ({ cls := "java/lang/Number", name := "<init>", desc := "()V" } : Jvm.MethodName) jdk_18_method_1_code (1 : Nat) (Option.none : Option Jvm.ClassFile.FieldType)]
set_option maxRecDepth 65536 in
theorem codes_eq : words1.filter isCode = codes1 := rfl
theorem w_codes : ∀ c ∈ words1.filter isCode, c.before args0 about1 = true := by
  rw [codes_eq]
  intro c hc
  simp only [codes1, List.mem_cons, List.not_mem_nil, or_false] at hc
  rcases hc with rfl | rfl | rfl | rfl | rfl | rfl | rfl | rfl | rfl | rfl | rfl | rfl | rfl | rfl | rfl | rfl | rfl | rfl
  · exact w_c0
  · exact w_c1
  · exact w_c2
  · exact w_c3
  · exact w_c4
  · exact w_c5
  · exact w_c6
  · exact w_c7
  · exact w_c8
  · exact w_c9
  · exact w_c10
  · exact w_c11
  · exact w_c12
  · exact w_c13
  · exact w_c14
  · exact w_c15
  · exact w_c16
  · exact w_c17
set_option maxRecDepth 65536 in
theorem w_t1 : (words1.take 24).all (fun c => isCode c || c.before args0 about1) = true := by decide +kernel
set_option maxRecDepth 65536 in
theorem w_t2 : ((words1.drop 24).take 24).all (fun c => isCode c || c.before args0 about1) = true := by decide +kernel
set_option maxRecDepth 65536 in
theorem w_t3 : (((words1.drop 24).drop 24).take 24).all (fun c => isCode c || c.before args0 about1) = true := by decide +kernel
set_option maxRecDepth 65536 in
theorem w_t4 : ((((words1.drop 24).drop 24).drop 24).take 24).all (fun c => isCode c || c.before args0 about1) = true := by decide +kernel
set_option maxRecDepth 65536 in
theorem w_t5 : ((((words1.drop 24).drop 24).drop 24).drop 24).all (fun c => isCode c || c.before args0 about1) = true := by decide +kernel
theorem w_tables : (allAtoms (Jvm.Cond.code x code maxLocals ret :: tables_1)).before args0 about1 = true := by
  rw [allAtoms_all]
  show words1.all (fun c => c.before args0 about1) = true
  refine all_split ?_ w_codes
  rw [← List.take_append_drop 24 words1, List.all_append, w_t1, ← List.take_append_drop 24 (words1.drop 24), List.all_append, w_t2, ← List.take_append_drop 24 ((words1.drop 24).drop 24), List.all_append, w_t3, ← List.take_append_drop 24 (((words1.drop 24).drop 24).drop 24), List.all_append, w_t4, w_t5]
  rfl
set_option maxRecDepth 65536 in
theorem w_rest : rest_1_c.before args0 about1 = true := by decide +kernel
set_option maxRecDepth 65536 in
theorem w_case : (Jvm.Cond.and given_1 narrow_1).before args0 about1 = true := by decide +kernel
theorem w_applies : (headSpec (Jvm.Cond.code x code maxLocals ret :: tables_1) room_1).applies x e0.platform about1 = true :=
  (Spec.applies_iff w_frames).mpr ⟨w_running, w_runnable, w_alone, w_named, w_hears, w_ripe, w_room, w_tables⟩
theorem atStart : AtStart classFile x code maxLocals ret World_1 tables_1 room_1 Calls_1 rest_1 Pre_1 launch0 p0 e0 about1 theMethod args0 below0 :=
  ⟨lists_1, trivial, launch0.admits_env _ _ _, launch0.least_env, fairChoices_fair.cas, fairChoices_fair.clock, w_frames, w_args, w_heap, w_applies, trivial, w_rest, w_case⟩
end start1
theorem witness_1 : WitnessClaimed_1 := ⟨start1.p0, start1.e0, start1.about1, start1.theMethod, start1.args0, start1.below0, start1.atStart⟩
end Jvm.Pilot.@@N@@
