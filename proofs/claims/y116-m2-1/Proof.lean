import JvmDerived
import JvmDerived.Pilot.@@N@@Statement
import JvmDerived.Pilot.@@N@@Code
set_option linter.unusedVariables false
set_option linter.unusedSimpArgs false

/- laws to paste: Road.backV, Road.lenW, Road.chN, Road.eqW, Road.codOf (cut by pick.py; bodies as the Statement names them) -/
namespace Jvm.Pilot.@@N@@
namespace StrChars
open Jvm Sem ClassFile Op Lib Jvm.Stand Jvm.Free.XT Jvm.Free.ALB Jvm.Free.JM Jvm.Free
open Jvm.Lib.Cold (StaticIs)
/-- a char array whose places are chars -/
def Ch (a : Addr) (A : Cell) (U : State) : Prop := Arr .char a A U ∧ Typed .char A
theorem Ch.mv {a : Addr} {A : Cell} {U U' : State} (h : Ch a A U) (hal : U.vm.Alike U'.vm) (hh : U'.heap = U.heap) : Ch a A U' := ⟨h.1.mv hal hh, h.2⟩
theorem Ch.keep {a : Addr} {A : Cell} {U U' : State} (h : Ch a A U) (hal : U.vm.Alike U'.vm) (hk : U'.heap[a]? = some A) : Ch a A U' := ⟨h.1.keep hal hk, h.2⟩
/-- what place i of a char[]'s cell holds -/
def cv (A : Cell) (i : Nat) : Int32 := match A.slots[i]? with | some (.int x) => x | _ => 0
theorem Ch.get {a : Addr} {A : Cell} {U : State} (h : Ch a A U) {i : Nat} (hi : i < A.slots.size) : A.slots[i]? = some (.int (cv A i)) := by
  have e := Array.getElem?_eq_getElem hi
  have f := h.2 i _ e
  unfold cv; rw [e]
  generalize A.slots[i] = v at f
  cases v <;> simp [fits] at f ⊢
/-- the byte that i2b leaves of a char -/
def lo8 (x : Int32) : Int32 := x.toInt8.toInt32
theorem fits_lo8 (y : Int32) : fits .byte (.int (lo8 y)) = true := by
  have h1 := y.toInt8.le_toInt
  have h2 := y.toInt8.toInt_lt
  simp only [lo8, fits, Bool.and_eq_true, decide_eq_true_eq, Int32.le_iff_toInt_le, Int8.toInt_toInt32, show (-128 : Int32).toInt = -128 from by decide, show (127 : Int32).toInt = 127 from by decide]
  omega
/-- A' is A but that each place j of lo .. hi - 1 holds f j -/
def Laid (A A' : Cell) (lo hi : Nat) (f : Nat → Value) : Prop := A'.cls = A.cls ∧ A'.vm = A.vm ∧ A'.slots.size = A.slots.size ∧ ∀ i, A'.slots[i]? = if lo ≤ i ∧ i < hi then some (f i) else A.slots[i]?
theorem Laid.zero (A : Cell) (lo : Nat) (f : Nat → Value) : Laid A A lo (lo + 0) f := ⟨rfl, rfl, rfl, fun i => by rw [if_neg (by omega)]⟩
theorem Laid.step {A Ak : Cell} {lo k : Nat} {f : Nat → Value} {v : Value} (h : Laid A Ak lo k f) (hlo : lo ≤ k) (hk : k < Ak.slots.size) (hv : v = f k) : Laid A (Ak.setSlot k v) lo (k + 1) f := by
  refine ⟨h.1, h.2.1, by simpa [Cell.setSlot] using h.2.2.1, fun i => ?_⟩
  by_cases e : k = i
  · subst e; rw [Cell.slots_setSlot_self v hk, if_pos (by omega), hv]
  · rw [Cell.slots_setSlot_ne v e, h.2.2.2 i]
    by_cases q : lo ≤ i ∧ i < k
    · rw [if_pos q, if_pos (by omega)]
    · rw [if_neg q, if_neg (by omega)]
def U16 : String := "java/lang/StringUTF16"
namespace Cmp5
def yN : MethodName := ⟨"java/lang/StringUTF16", "compress", "([CI[BII)I"⟩
abbrev yB : ByteArray := jdk_52_method_21_code
theorem d0 : decode yB 0 = .ok (.iconst 0, 1) := by decide +kernel
theorem d1 : decode yB 1 = .ok (.istore 5, 2) := by decide +kernel
theorem d3 : decode yB 3 = .ok (.iload 5, 2) := by decide +kernel
theorem d5 : decode yB 5 = .ok (.iload 4, 2) := by decide +kernel
theorem d7 : decode yB 7 = .ok (.if_icmp (.ge) 37, 3) := by decide +kernel
theorem d10 : decode yB 10 = .ok (.aload_n 0, 1) := by decide +kernel
theorem d11 : decode yB 11 = .ok (.iload_n 1, 1) := by decide +kernel
theorem d12 : decode yB 12 = .ok (.caload, 1) := by decide +kernel
theorem d13 : decode yB 13 = .ok (.istore 6, 2) := by decide +kernel
theorem d15 : decode yB 15 = .ok (.iload 6, 2) := by decide +kernel
theorem d17 : decode yB 17 = .ok (.sipush 255, 3) := by decide +kernel
theorem d20 : decode yB 20 = .ok (.if_icmp (.le) 6, 3) := by decide +kernel
theorem d26 : decode yB 26 = .ok (.aload_n 2, 1) := by decide +kernel
theorem d27 : decode yB 27 = .ok (.iload_n 3, 1) := by decide +kernel
theorem d28 : decode yB 28 = .ok (.iload 6, 2) := by decide +kernel
theorem d30 : decode yB 30 = .ok (.i2b, 1) := by decide +kernel
theorem d31 : decode yB 31 = .ok (.bastore, 1) := by decide +kernel
theorem d32 : decode yB 32 = .ok (.iinc 1 1, 3) := by decide +kernel
theorem d35 : decode yB 35 = .ok (.iinc 3 1, 3) := by decide +kernel
theorem d38 : decode yB 38 = .ok (.iinc 5 1, 3) := by decide +kernel
theorem d41 : decode yB 41 = .ok (.goto (-38), 3) := by decide +kernel
theorem d44 : decode yB 44 = .ok (.iload 4, 2) := by decide +kernel
theorem d46 : decode yB 46 = .ok (.ireturn, 1) := by decide +kernel
def site : List Cond := []
def tab : Cond := tabOf yN yB 7 (some .int) site
def P (b : Addr) (A : Cell) (d : Addr) (B : Cell) (o q len : Nat) (args : Array Value) (s : State) : Prop := args = #[.ref b, .int (Int32.ofNat o), .ref d, .int (Int32.ofNat q), .int (Int32.ofNat len)] ∧ Ch b A s ∧ Arr .byte d B s ∧ b ≠ d ∧ o + len ≤ A.slots.size ∧ q + len ≤ B.slots.size ∧ ∀ i, i < len → ¬ 255 < cv A (o + i)
def E (b : Addr) (A : Cell) (d : Addr) (B : Cell) (o q len : Nat) (r : Option Value) (s u : State) : Prop := r = some (.int (Int32.ofNat len)) ∧ ∃ B', Put d B' s u ∧ Laid B B' q (q + len) (fun j => Value.int (lo8 (cv A (o + (j - q)))))
/-- no char of the range above 255: len; the places written hold each char's low byte -/
theorem law (l : Launch) (b : Addr) (A : Cell) (d : Addr) (B : Cell) (o q len : Nat) : Law l yN 5 5 0 0 yB 7 (some .int) site (P b A d B o q len) (E b A d B o q len) (copyLocs d q len) 0 0 := by
  refine Law.of_walk (plainFor_of_name (by decide +kernel)) (by decide +kernel) (by decide +kernel) (by decide) (fun _ _ h => by rw [h.1]; rfl) (fun _ U U' hal hh h => ⟨h.1, h.2.1.mv hal hh, h.2.2.1.mv hal hh, h.2.2.2⟩) (fun r U U' V V' h1 hal h2 h => ⟨h.1, h.2.elim fun B' q => ⟨B', q.1.mv h1 h2, q.2⟩⟩) ?_
  intro p e s m args below meth c s₁ X0 hexec hbytes hml hret hlk hnm hown hh0 W hP
  obtain ⟨rfl, hA, hB, hne, l1, l2, hp⟩ := hP
  have c1 : Steps p.tables e below (s₁.setTop (entryFrame m #[.ref b, .int (Int32.ofNat o), .ref d, .int (Int32.ofNat q), .int (Int32.ofNat len)] 7)) (s₁.setTop (mkF m 0 #[.val (.ref b), .val (.int (Int32.ofNat o)), .val (.ref d), .val (.int (Int32.ofNat q)), .val (.int (Int32.ofNat len)), .unset, .unset] [])) := entry rfl
  have hA0 := hA.1.mv X0.warmed.alike hh0
  have hB0 := hB.mv X0.warmed.alike hh0
  have a31 := hA.1.2.2.2
  have c2 : Steps p.tables e below (s₁.setTop (entryFrame m #[.ref b, .int (Int32.ofNat o), .ref d, .int (Int32.ofNat q), .int (Int32.ofNat len)] 7)) (s₁.setTop (mkF m 3 #[.val (.ref b), .val (.int (Int32.ofNat o)), .val (.ref d), .val (.int (Int32.ofNat q)), .val (.int (Int32.ofNat len)), .val (.int 0), .unset] [])) := c1.trans (by
    refine iconstV X0.here hexec rfl 0 (hb hbytes d0) (by decide) ?_
    refine XS.istore X0.here hexec rfl (hb hbytes d1) rfl rfl ?_
    exact Steps.refl _)
  have loop : ∀ (r i : Nat), i + r = len → ∀ (z : Slot), (z = .unset ∨ ∃ w, z = .val w ∧ w.category = 1) → ∀ (Tl : State) (Bk : Cell), Stand p l e { frames := 0, locals := 0, cells := 0, slots := 0 } s m #[.ref b, .int (Int32.ofNat o), .ref d, .int (Int32.ofNat q), .int (Int32.ofNat len)] below meth c Tl ([] ++ copyLocs d q i) 0 0 → Put d Bk s₁ Tl → Laid B Bk q (q + i) (fun j => Value.int (lo8 (cv A (o + (j - q))))) →
      Steps p.tables e below (s₁.setTop (entryFrame m #[.ref b, .int (Int32.ofNat o), .ref d, .int (Int32.ofNat q), .int (Int32.ofNat len)] 7)) (Tl.setTop (mkF m 3 #[.val (.ref b), .val (.int (Int32.ofNat (o + i))), .val (.ref d), .val (.int (Int32.ofNat (q + i))), .val (.int (Int32.ofNat len)), .val (.int (Int32.ofNat i)), z] [])) → ∃ (T' : State) (B' : Cell) (z' : Slot), Stand p l e { frames := 0, locals := 0, cells := 0, slots := 0 } s m #[.ref b, .int (Int32.ofNat o), .ref d, .int (Int32.ofNat q), .int (Int32.ofNat len)] below meth c T' ([] ++ copyLocs d q len) 0 0 ∧ Put d B' s₁ T' ∧ Laid B B' q (q + len) (fun j => Value.int (lo8 (cv A (o + (j - q))))) ∧
      Steps p.tables e below (s₁.setTop (entryFrame m #[.ref b, .int (Int32.ofNat o), .ref d, .int (Int32.ofNat q), .int (Int32.ofNat len)] 7)) (T'.setTop (mkF m 3 #[.val (.ref b), .val (.int (Int32.ofNat (o + len))), .val (.ref d), .val (.int (Int32.ofNat (q + len))), .val (.int (Int32.ofNat len)), .val (.int (Int32.ofNat len)), z'] [])) := by
    intro r
    induction r with
    | zero =>
      intro i hi z hz Tl Bk Xl pl fl cl
      have hil : i = len := by omega
      rw [hil] at Xl fl cl
      exact ⟨Tl, Bk, z, Xl, pl, fl, cl⟩
    | succ r ih =>
      intro i hi z hz Tl Bk Xl pl fl cl
      have all := X0.warmed.alike.symm.trans Xl.warmed.alike
      have hAl := hA0.keep all (pl.other hne hA0.1)
      have hBk := hB0.like all pl.1 fl.1 fl.2.1 fl.2.2.1
      have hlt : q + i < Bk.slots.size := by rw [fl.2.2.1]; omega
      have c3 : Steps p.tables e below (s₁.setTop (entryFrame m #[.ref b, .int (Int32.ofNat o), .ref d, .int (Int32.ofNat q), .int (Int32.ofNat len)] 7)) (Tl.setTop (mkF m 12 #[.val (.ref b), .val (.int (Int32.ofNat (o + i))), .val (.ref d), .val (.int (Int32.ofNat (q + i))), .val (.int (Int32.ofNat len)), .val (.int (Int32.ofNat i)), z] [.int (Int32.ofNat (o + i)), .ref b])) := cl.trans (by
        refine XS.iload Xl.here hexec rfl (hb hbytes d3) rfl ?_
        refine XS.iload Xl.here hexec rfl (hb hbytes d5) rfl ?_
        refine XS.icmpNo Xl.here hexec rfl (hb hbytes d7) rfl (ii_ge_f (lt32 (by omega) (by omega))) ?_
        refine XS.aloadN Xl.here hexec rfl (hb hbytes d10) rfl rfl ?_
        refine XS.iloadN Xl.here hexec rfl (hb hbytes d11) rfl ?_
        exact Steps.refl _)
      have c4 : Steps p.tables e below (s₁.setTop (entryFrame m #[.ref b, .int (Int32.ofNat o), .ref d, .int (Int32.ofNat q), .int (Int32.ofNat len)] 7)) (Tl.setTop (mkF m 13 #[.val (.ref b), .val (.int (Int32.ofNat (o + i))), .val (.ref d), .val (.int (Int32.ofNat (q + i))), .val (.int (Int32.ofNat len)), .val (.int (Int32.ofNat i)), z] [.int (cv A (o + i))])) := c3.trans (by
        refine Xl.aget hexec hAl rfl (hA.get (i := o + i) (by omega)) rfl rfl (hb hbytes d12) ?_
        exact Steps.refl _)
      have c5 : Steps p.tables e below (s₁.setTop (entryFrame m #[.ref b, .int (Int32.ofNat o), .ref d, .int (Int32.ofNat q), .int (Int32.ofNat len)] 7)) (Tl.setTop (mkF m 15 #[.val (.ref b), .val (.int (Int32.ofNat (o + i))), .val (.ref d), .val (.int (Int32.ofNat (q + i))), .val (.int (Int32.ofNat len)), .val (.int (Int32.ofNat i)), .val (.int (cv A (o + i)))] [])) := c4.trans (by
        refine XS.istoreS Xl.here hexec rfl (hb hbytes d13) rfl rfl hz ?_
        exact Steps.refl _)
      have c6 : Steps p.tables e below (s₁.setTop (entryFrame m #[.ref b, .int (Int32.ofNat o), .ref d, .int (Int32.ofNat q), .int (Int32.ofNat len)] 7)) (Tl.setTop (mkF m 31 #[.val (.ref b), .val (.int (Int32.ofNat (o + i))), .val (.ref d), .val (.int (Int32.ofNat (q + i))), .val (.int (Int32.ofNat len)), .val (.int (Int32.ofNat i)), .val (.int (cv A (o + i)))] [.int (lo8 (cv A (o + i))), .int (Int32.ofNat (q + i)), .ref d])) := c5.trans (by
        refine XS.iload Xl.here hexec rfl (hb hbytes d15) rfl ?_
        refine sipushV Xl.here hexec rfl 255 (hb hbytes d17) (by decide) ?_
        refine XS.icmpYes Xl.here hexec rfl (pc0 := 20) rfl (hb hbytes d20) rfl (ii_le_t (hp i (by omega))) (by decide) rfl ?_
        refine XS.aloadN Xl.here hexec rfl (hb hbytes d26) rfl rfl ?_
        refine XS.iloadN Xl.here hexec rfl (hb hbytes d27) rfl ?_
        refine XS.iload Xl.here hexec rfl (hb hbytes d28) rfl ?_
        refine i2b Xl.here hexec rfl (hb hbytes d30) rfl ?_
        exact Steps.refl _)
      obtain ⟨T7, X7, p7, st7⟩ := Xl.aput hexec hBk rfl hlt rfl (fits_lo8 (cv A (o + i))) (g := (mkF m 31 #[.val (.ref b), .val (.int (Int32.ofNat (o + i))), .val (.ref d), .val (.int (Int32.ofNat (q + i))), .val (.int (Int32.ofNat len)), .val (.int (Int32.ofNat i)), .val (.int (cv A (o + i)))] [.int (lo8 (cv A (o + i))), .int (Int32.ofNat (q + i)), .ref d])) rfl (rest := []) rfl (hb hbytes d31)
      have c8 : Steps p.tables e below (s₁.setTop (entryFrame m #[.ref b, .int (Int32.ofNat o), .ref d, .int (Int32.ofNat q), .int (Int32.ofNat len)] 7)) (T7.setTop (mkF m 32 #[.val (.ref b), .val (.int (Int32.ofNat (o + i))), .val (.ref d), .val (.int (Int32.ofNat (q + i))), .val (.int (Int32.ofNat len)), .val (.int (Int32.ofNat i)), .val (.int (cv A (o + i)))] [])) := c6.trans (st7 _ (Steps.refl _))
      have c9 : Steps p.tables e below (s₁.setTop (entryFrame m #[.ref b, .int (Int32.ofNat o), .ref d, .int (Int32.ofNat q), .int (Int32.ofNat len)] 7)) (T7.setTop (mkF m 3 #[.val (.ref b), .val (.int (Int32.ofNat (o + i) + 1)), .val (.ref d), .val (.int (Int32.ofNat (q + i) + 1)), .val (.int (Int32.ofNat len)), .val (.int (Int32.ofNat i + 1)), .val (.int (cv A (o + i)))] [])) := c8.trans (by
        refine iincV X7.here hexec rfl 1 (hb hbytes d32) (by decide) rfl rfl ?_
        refine iincV X7.here hexec rfl 1 (hb hbytes d35) (by decide) rfl rfl ?_
        refine iincV X7.here hexec rfl 1 (hb hbytes d38) (by decide) rfl rfl ?_
        refine XS.goto X7.here hexec rfl (pc0 := 41) rfl (hb hbytes d41) (by decide) rfl ?_
        exact Steps.refl _)
      have c10 : Steps p.tables e below (s₁.setTop (entryFrame m #[.ref b, .int (Int32.ofNat o), .ref d, .int (Int32.ofNat q), .int (Int32.ofNat len)] 7)) (T7.setTop (mkF m 3 #[.val (.ref b), .val (.int (Int32.ofNat (o + (i + 1)))), .val (.ref d), .val (.int (Int32.ofNat (q + (i + 1)))), .val (.int (Int32.ofNat len)), .val (.int (Int32.ofNat (i + 1))), .val (.int (cv A (o + i)))] [])) := by
        have := c9
        rw [succ32, succ32, succ32] at this
        exact this
      exact ih (i + 1) (by omega) _ (Or.inr ⟨_, rfl, rfl⟩) T7 _ (by rw [copyLocs_step, ← List.append_assoc]; exact X7) (pl.trans p7) (fl.step (by omega) hlt (by simp)) c10
  obtain ⟨T9, B9, z9, X9, p9, f9, g9⟩ := loop len 0 (by omega) .unset (Or.inl rfl) s₁ B (by simpa [copyLocs] using X0) ⟨hB0.1, fun _ _ => rfl, rfl⟩ (Laid.zero _ _ _) c2
  have c11 : Steps p.tables e below (s₁.setTop (entryFrame m #[.ref b, .int (Int32.ofNat o), .ref d, .int (Int32.ofNat q), .int (Int32.ofNat len)] 7)) (T9.setTop (mkF m 46 #[.val (.ref b), .val (.int (Int32.ofNat (o + len))), .val (.ref d), .val (.int (Int32.ofNat (q + len))), .val (.int (Int32.ofNat len)), .val (.int (Int32.ofNat len)), z9] [.int (Int32.ofNat len)])) := g9.trans (by
    refine XS.iload X9.here hexec rfl (hb hbytes d3) rfl ?_
    refine XS.iload X9.here hexec rfl (hb hbytes d5) rfl ?_
    refine XS.icmpYes X9.here hexec rfl (pc0 := 7) rfl (hb hbytes d7) rfl (ii_ge_t (nlt32 (by omega) (Nat.le_refl _))) (by decide) rfl ?_
    refine XS.iload X9.here hexec rfl (hb hbytes d44) rfl ?_
    exact Steps.refl _)
  exact ⟨T9, some (.int (Int32.ofNat len)), _, _, _, X9, by simp, rfl, rfl, (fun h => by cases h), ⟨rfl, B9, p9.from hh0, f9⟩, fun fs hl => c11.trans (X9.ireturnOut hexec hret rfl (Or.inl rfl) (hb hbytes d46) hl)⟩
end Cmp5
namespace Cmp3
def yN : MethodName := ⟨"java/lang/StringUTF16", "compress", "([CII)[B"⟩
abbrev yB : ByteArray := jdk_52_method_16_code
theorem d0 : decode yB 0 = .ok (.iload_n 2, 1) := by decide +kernel
theorem d1 : decode yB 1 = .ok (.newarray .byte, 2) := by decide +kernel
theorem d3 : decode yB 3 = .ok (.astore_n 3, 1) := by decide +kernel
theorem d4 : decode yB 4 = .ok (.aload_n 0, 1) := by decide +kernel
theorem d5 : decode yB 5 = .ok (.iload_n 1, 1) := by decide +kernel
theorem d6 : decode yB 6 = .ok (.aload_n 3, 1) := by decide +kernel
theorem d7 : decode yB 7 = .ok (.iconst 0, 1) := by decide +kernel
theorem d8 : decode yB 8 = .ok (.iload_n 2, 1) := by decide +kernel
theorem d9 : decode yB 9 = .ok (.invokestatic 115, 3) := by decide +kernel
theorem d12 : decode yB 12 = .ok (.istore 4, 2) := by decide +kernel
theorem d14 : decode yB 14 = .ok (.iload 4, 2) := by decide +kernel
theorem d16 : decode yB 16 = .ok (.iload_n 2, 1) := by decide +kernel
theorem d17 : decode yB 17 = .ok (.if_icmp (.eq) 40, 3) := by decide +kernel
theorem d57 : decode yB 57 = .ok (.aload_n 3, 1) := by decide +kernel
theorem d58 : decode yB 58 = .ok (.areturn, 1) := by decide +kernel
def site : List Cond := [.arrayClass .byte, Cmp5.tab] ++ staticW U16 115 Cmp5.yN
def tab : Cond := tabOf yN yB 6 (some (.array .byte)) site
def P (b : Addr) (A : Cell) (o len : Nat) (args : Array Value) (s : State) : Prop := args = #[.ref b, .int (Int32.ofNat o), .int (Int32.ofNat len)] ∧ Ch b A s ∧ o + len ≤ A.slots.size ∧ len ≤ 536870912 ∧ ∀ i, i < len → ¬ 255 < cv A (o + i)
def E (b : Addr) (A : Cell) (o len : Nat) (r : Option Value) (s u : State) : Prop := NewArr .byte "[B" len (fun j => .int (lo8 (cv A (o + j)))) r s u ∧ u.heap.size = s.heap.size + 1
/-- no char of the range above 255: a new byte[] of their low bytes -/
theorem law (l : Launch) (b : Addr) (A : Cell) (o len : Nat) : Law l yN 3 3 1 18 yB 6 (some (.array .byte)) site (P b A o len) (E b A o len) [] 1 len := by
  refine Law.of_walk (plainFor_of_name (by decide +kernel)) (by decide +kernel) (by decide +kernel) (by decide) (fun _ _ h => by rw [h.1]; rfl) (fun _ U U' hal hh h => ⟨h.1, h.2.1.mv hal hh, h.2.2⟩) (fun r U U' V V' h1 hal h2 h => ⟨NewArr.mv r U U' V V' h1 hal h2 h.1, by rw [h1, h2]; exact h.2⟩) ?_
  intro p e s m args below meth c s₁ X0 hexec hbytes hml hret hlk hnm hown hh0 W hP
  obtain ⟨rfl, hA, l1, l2, hp⟩ := hP
  have a31 := hA.1.2.2.2
  have c1 : Steps p.tables e below (s₁.setTop (entryFrame m #[.ref b, .int (Int32.ofNat o), .int (Int32.ofNat len)] 6)) (s₁.setTop (mkF m 0 #[.val (.ref b), .val (.int (Int32.ofNat o)), .val (.int (Int32.ofNat len)), .unset, .unset, .unset] [])) := entry rfl
  have c2 : Steps p.tables e below (s₁.setTop (entryFrame m #[.ref b, .int (Int32.ofNat o), .int (Int32.ofNat len)] 6)) (s₁.setTop (mkF m 1 #[.val (.ref b), .val (.int (Int32.ofNat o)), .val (.int (Int32.ofNat len)), .unset, .unset, .unset] [.int (Int32.ofNat len)])) := c1.trans (by
    refine XS.iloadN X0.here hexec rfl (hb hbytes d0) rfl ?_
    exact Steps.refl _)
  obtain ⟨T3, B3, X3, ba3, bs3, bv3, bh3, bf3, st3⟩ := X0.anew hexec (atype := .byte) (wk W (.arrayClass .byte)) rfl (by show len * 1 ≤ _; omega) (by omega) (g := (mkF m 1 #[.val (.ref b), .val (.int (Int32.ofNat o)), .val (.int (Int32.ofNat len)), .unset, .unset, .unset] [.int (Int32.ofNat len)])) rfl (hb hbytes d1) (rest := []) rfl (Nat.le_refl _) (by show 0 + len ≤ len; omega)
  rw [hh0] at ba3 st3
  have kp3 : XT.Kept s T3 := (XT.Kept.of_eq hh0).push bh3
  have hA3 := hA.keep X3.warmed.alike (kp3 _ _ hA.1.1)
  have hne : b ≠ s.heap.size := hA.1.ne
  have c4 : Steps p.tables e below (s₁.setTop (entryFrame m #[.ref b, .int (Int32.ofNat o), .int (Int32.ofNat len)] 6)) (T3.setTop (mkF m 3 #[.val (.ref b), .val (.int (Int32.ofNat o)), .val (.int (Int32.ofNat len)), .unset, .unset, .unset] [.ref s.heap.size])) := c2.trans (st3 _ (Steps.refl _))
  have c5 : Steps p.tables e below (s₁.setTop (entryFrame m #[.ref b, .int (Int32.ofNat o), .int (Int32.ofNat len)] 6)) (T3.setTop (mkF m 9 #[.val (.ref b), .val (.int (Int32.ofNat o)), .val (.int (Int32.ofNat len)), .val (.ref s.heap.size), .unset, .unset] [.int (Int32.ofNat len), .int 0, .ref s.heap.size, .int (Int32.ofNat o), .ref b])) := c4.trans (by
    refine XS.astoreN X3.here hexec rfl (hb hbytes d3) rfl rfl rfl ?_
    refine XS.aloadN X3.here hexec rfl (hb hbytes d4) rfl rfl ?_
    refine XS.iloadN X3.here hexec rfl (hb hbytes d5) rfl ?_
    refine XS.aloadN X3.here hexec rfl (hb hbytes d6) rfl rfl ?_
    refine iconstV X3.here hexec rfl 0 (hb hbytes d7) (by decide) ?_
    refine XS.iloadN X3.here hexec rfl (hb hbytes d8) rfl ?_
    exact Steps.refl _)
  obtain ⟨v6, T6, X6, E6, g6⟩ := X3.callS hexec (Cmp5.law l b A s.heap.size B3 o 0 len) hown (wks W (staticW U16 115 Cmp5.yN)) (wk W Cmp5.tab) (W := 0) (Nat.le_of_ble_eq_true rfl) (Nat.le_of_ble_eq_true rfl) (Nat.le_refl _) (by show 0 + len + 0 ≤ len; omega) (g := (mkF m 9 #[.val (.ref b), .val (.int (Int32.ofNat o)), .val (.int (Int32.ofNat len)), .val (.ref s.heap.size), .unset, .unset] [.int (Int32.ofNat len), .int (Int32.ofNat 0), .ref s.heap.size, .int (Int32.ofNat o), .ref b])) rfl (by rw [hml]; rfl) c5 (argsL := [.ref b, .int (Int32.ofNat o), .ref s.heap.size, .int (Int32.ofNat 0), .int (Int32.ofNat len)]) (rest := []) rfl rfl (by show 2 * 0 + 0 ≤ _; decide) (hb hbytes d9) (⟨rfl, hA3, ba3, hne, l1, by rw [bs3]; simp, hp⟩)
  obtain ⟨rfl, B6, p6, f6⟩ := E6
  have c7 : Steps p.tables e below (s₁.setTop (entryFrame m #[.ref b, .int (Int32.ofNat o), .int (Int32.ofNat len)] 6)) (T6.setTop (mkF m 12 #[.val (.ref b), .val (.int (Int32.ofNat o)), .val (.int (Int32.ofNat len)), .val (.ref s.heap.size), .unset, .unset] [.int (Int32.ofNat len)])) := g6
  have c8 : Steps p.tables e below (s₁.setTop (entryFrame m #[.ref b, .int (Int32.ofNat o), .int (Int32.ofNat len)] 6)) (T6.setTop (mkF m 58 #[.val (.ref b), .val (.int (Int32.ofNat o)), .val (.int (Int32.ofNat len)), .val (.ref s.heap.size), .val (.int (Int32.ofNat len)), .unset] [.ref s.heap.size])) := c7.trans (by
    refine XS.istore X6.here hexec rfl (hb hbytes d12) rfl rfl ?_
    refine XS.iload X6.here hexec rfl (hb hbytes d14) rfl ?_
    refine XS.iloadN X6.here hexec rfl (hb hbytes d16) rfl ?_
    refine XS.icmpYes X6.here hexec rfl (pc0 := 17) rfl (hb hbytes d17) rfl (ii_eq_t rfl) (by decide) rfl ?_
    refine XS.aloadN X6.here hexec rfl (hb hbytes d57) rfl rfl ?_
    exact Steps.refl _)
  have X8 := X6.wide (L' := []) (cells' := 1) (slots' := len) (fun x hx hlt => by
    simp only [List.nil_append, copyLocs, List.mem_map, List.mem_range] at hx
    obtain ⟨i, -, rfl⟩ := hx
    exact absurd hlt (Nat.lt_irrefl _)) (Nat.le_refl _) (by omega)
  exact ⟨T6, some (.ref s.heap.size), _, _, _, X8, rfl, rfl, rfl, (fun h => by cases h), ⟨⟨rfl, B6, ba3.like (X3.warmed.alike.symm.trans X6.warmed.alike) p6.1 f6.1 f6.2.1 f6.2.2.1, f6.2.1.trans bv3, by rw [X6.warmed.alike.findClass, f6.1]; exact bf3, by rw [f6.2.2.1, bs3]; simp, fun j hj => by rw [f6.2.2.2 j, if_pos (by omega)]; rfl, kp3.put p6 (Nat.le_refl _)⟩, by rw [p6.2.2, bh3, hh0]; simp⟩, fun fs hl => c8.trans (X8.areturnOut hexec rfl hret rfl (hb hbytes d58) hl)⟩
end Cmp3
namespace CodL
def yN : MethodName := ⟨"java/lang/StringUTF16", "coderFromArrayLen", "([BI)B"⟩
abbrev yB : ByteArray := jdk_52_method_15_code
theorem d0 : decode yB 0 = .ok (.iload_n 1, 1) := by decide +kernel
theorem d1 : decode yB 1 = .ok (.aload_n 0, 1) := by decide +kernel
theorem d2 : decode yB 2 = .ok (.arraylength, 1) := by decide +kernel
theorem d3 : decode yB 3 = .ok (.isub, 1) := by decide +kernel
theorem d4 : decode yB 4 = .ok (.bipush 31, 2) := by decide +kernel
theorem d6 : decode yB 6 = .ok (.iushr, 1) := by decide +kernel
theorem d7 : decode yB 7 = .ok (.i2b, 1) := by decide +kernel
theorem d8 : decode yB 8 = .ok (.ireturn, 1) := by decide +kernel
def site : List Cond := []
def tab : Cond := tabOf yN yB 2 (some .byte) site
def P (d : Addr) (B : Cell) (args : Array Value) (s : State) : Prop := args = #[.ref d, .int (Int32.ofNat B.slots.size)] ∧ Arr .byte d B s
def E (r : Option Value) (s u : State) : Prop := XT.PureE (some (.int 0)) r s u
/-- an array as long as the number of chars: LATIN1 -/
theorem law (l : Launch) (d : Addr) (B : Cell) : Law l yN 2 2 0 0 yB 2 (some .byte) site (P d B) E [] 0 0 := by
  refine Law.of_walk (plainFor_of_name (by decide +kernel)) (by decide +kernel) (by decide +kernel) (by decide) (fun _ _ h => by rw [h.1]; rfl) (fun _ U U' hal hh h => ⟨h.1, h.2.mv hal hh⟩) (fun r U U' V V' h1 hal h2 h => XT.PureE.mv r U U' V V' h1 hal h2 h) ?_
  intro p e s m args below meth c s₁ X0 hexec hbytes hml hret hlk hnm hown hh0 W hP
  obtain ⟨rfl, hB⟩ := hP
  have hB0 := hB.mv X0.warmed.alike hh0
  have c1 : Steps p.tables e below (s₁.setTop (entryFrame m #[.ref d, .int (Int32.ofNat B.slots.size)] 2)) (s₁.setTop (mkF m 0 #[.val (.ref d), .val (.int (Int32.ofNat B.slots.size))] [])) := entry rfl
  have c2 : Steps p.tables e below (s₁.setTop (entryFrame m #[.ref d, .int (Int32.ofNat B.slots.size)] 2)) (s₁.setTop (mkF m 2 #[.val (.ref d), .val (.int (Int32.ofNat B.slots.size))] [.ref d, .int (Int32.ofNat B.slots.size)])) := c1.trans (by
    refine XS.iloadN X0.here hexec rfl (hb hbytes d0) rfl ?_
    refine XS.aloadN X0.here hexec rfl (hb hbytes d1) rfl rfl ?_
    exact Steps.refl _)
  have c3 : Steps p.tables e below (s₁.setTop (entryFrame m #[.ref d, .int (Int32.ofNat B.slots.size)] 2)) (s₁.setTop (mkF m 8 #[.val (.ref d), .val (.int (Int32.ofNat B.slots.size))] [.int (lo8 (ushr (Int32.ofNat B.slots.size - Int32.ofNat B.slots.size) 31))])) := c2.trans (by
    refine X0.alen hexec hB0 rfl rfl (hb hbytes d2) ?_
    refine XS.isub X0.here hexec rfl (hb hbytes d3) rfl ?_
    refine bipushV X0.here hexec rfl 31 (hb hbytes d4) (by decide) ?_
    refine iushr X0.here hexec rfl (hb hbytes d6) rfl ?_
    refine i2b X0.here hexec rfl (hb hbytes d7) rfl ?_
    exact Steps.refl _)
  have e0 : lo8 (ushr (Int32.ofNat B.slots.size - Int32.ofNat B.slots.size) 31) = 0 := by rw [Int32.sub_self]; decide
  rw [e0] at c3
  exact ⟨s₁, some (.int 0), _, _, _, X0, rfl, rfl, rfl, (fun h => by cases h), ⟨rfl, hh0⟩, fun fs hl => c3.trans (X0.ireturnOut hexec hret rfl (Or.inr (Or.inr (Or.inl rfl))) (hb hbytes d8) hl)⟩
end CodL
/-- the String at a is Latin-1 over a new byte[] (the heap's one new cell): the low bytes of the len chars of A from o on; every cell but a is kept -/
def Got (a : Addr) (D : Cell) (fV fC : Field) (A : Cell) (o len : Nat) (r : Option Value) (s u : State) : Prop := r = none ∧ ∃ D' V : Cell, Blank "java/lang/String" a D' u ∧ Same D D' [fV.slot, fC.slot] ∧ D'.slots[fV.slot]? = some (.ref s.heap.size) ∧ D'.slots[fC.slot]? = some (.int 0) ∧ Arr .byte s.heap.size V u ∧ V.vm = .none ∧ u.vm.findClass "[B" = some V.cls ∧ V.slots.size = len ∧ (∀ j, j < len → V.slots[j]? = some (.int (lo8 (cv A (o + j))))) ∧ (∀ (y : Addr) (c : Cell), y ≠ a → s.heap[y]? = some c → u.heap[y]? = some c) ∧ u.heap.size = s.heap.size + 1
theorem Got.mv {a : Addr} {D A : Cell} {fV fC : Field} {o len : Nat} : ∀ r (U U' V V' : State), U'.heap = U.heap → V.vm.Alike V'.vm → V'.heap = V.heap → Got a D fV fC A o len r U V → Got a D fV fC A o len r U' V' :=
  fun r U U' V V' h1 hal h2 ⟨e0, D', X, a1, a2, a3, a4, a5, a6, a7, a8, a9, a10, a11⟩ => ⟨e0, D', X, a1.mv hal h2, a2, by rw [h1]; exact a3, a4, by rw [h1]; exact a5.mv hal h2, a6, by rw [hal.findClass]; exact a7, a8, a9, by rw [h1, h2]; exact a10, by rw [h1, h2]; exact a11⟩
namespace New4
def yN : MethodName := ⟨"java/lang/String", "<init>", "([CIILjava/lang/Void;)V"⟩
abbrev yB : ByteArray := jdk_42_method_149_code
theorem d0 : decode yB 0 = .ok (.aload_n 0, 1) := by decide +kernel
theorem d1 : decode yB 1 = .ok (.invokespecial 1, 3) := by decide +kernel
theorem d4 : decode yB 4 = .ok (.iload_n 3, 1) := by decide +kernel
theorem d5 : decode yB 5 = .ok (.ifCond (.ne) 22, 3) := by decide +kernel
theorem d27 : decode yB 27 = .ok (.getstatic 38, 3) := by decide +kernel
theorem d30 : decode yB 30 = .ok (.ifCond (.eq) 28, 3) := by decide +kernel
theorem d33 : decode yB 33 = .ok (.aload_n 1, 1) := by decide +kernel
theorem d34 : decode yB 34 = .ok (.iload_n 2, 1) := by decide +kernel
theorem d35 : decode yB 35 = .ok (.iload_n 3, 1) := by decide +kernel
theorem d36 : decode yB 36 = .ok (.invokestatic 177, 3) := by decide +kernel
theorem d39 : decode yB 39 = .ok (.astore 5, 2) := by decide +kernel
theorem d41 : decode yB 41 = .ok (.aload_n 0, 1) := by decide +kernel
theorem d42 : decode yB 42 = .ok (.aload 5, 2) := by decide +kernel
theorem d44 : decode yB 44 = .ok (.iload_n 3, 1) := by decide +kernel
theorem d45 : decode yB 45 = .ok (.invokestatic 47, 3) := by decide +kernel
theorem d48 : decode yB 48 = .ok (.putfield 15, 3) := by decide +kernel
theorem d51 : decode yB 51 = .ok (.aload_n 0, 1) := by decide +kernel
theorem d52 : decode yB 52 = .ok (.aload 5, 2) := by decide +kernel
theorem d54 : decode yB 54 = .ok (.putfield 9, 3) := by decide +kernel
theorem d57 : decode yB 57 = .ok (.return_, 1) := by decide +kernel
def site : List Cond := [.fieldLink "java/lang/String" 38 "java/lang/String" "COMPACT_STRINGS" "Z", Cmp3.tab, CodL.tab, .laysFinal "java/lang/String" "java/lang/String" "value" "[B", .fieldLink "java/lang/String" 9 "java/lang/String" "value" "[B", .laysFinal "java/lang/String" "java/lang/String" "coder" "B", .fieldLink "java/lang/String" 15 "java/lang/String" "coder" "B"] ++ objW "java/lang/String" 1 ++ staticW "java/lang/String" 177 Cmp3.yN ++ staticW "java/lang/String" 47 CodL.yN
def tab : Cond := tabOf yN yB 6 none site
def P (a : Addr) (D : Cell) (fV fC : Field) (b : Addr) (A : Cell) (z : Int32) (o len : Nat) (args : Array Value) (s : State) : Prop := args = #[.ref a, .ref b, .int (Int32.ofNat o), .int (Int32.ofNat len), .null] ∧ Blank "java/lang/String" a D s ∧ Found "java/lang/String" "value" "[B" fV s ∧ Found "java/lang/String" "coder" "B" fC s ∧ Ch b A s ∧ StaticIs s "java/lang/String" "COMPACT_STRINGS" "Z" (.int z) ∧ ¬ z = 0 ∧ 0 < len ∧ o + len ≤ A.slots.size ∧ len ≤ 536870912 ∧ ∀ i, i < len → ¬ 255 < cv A (o + i)
def E (a : Addr) (D : Cell) (fV fC : Field) (A : Cell) (o len : Nat) (r : Option Value) (s u : State) : Prop := Got a D fV fC A o len r s u
/-- len > 0, no char of the range above 255: a Latin-1 String of their low bytes -/
theorem law (l : Launch) (a : Addr) (D : Cell) (fV fC : Field) (b : Addr) (A : Cell) (z : Int32) (o len : Nat) : Law l yN 5 4 2 35 yB 6 none site (P a D fV fC b A z o len) (E a D fV fC A o len) [⟨a, fC.slot⟩, ⟨a, fV.slot⟩] 1 len := by
  refine Law.of_walk (plainFor_of_name (by decide +kernel)) (by decide +kernel) (by decide +kernel) (by decide) (fun _ _ h => by rw [h.1]; rfl) (fun _ U U' hal hh h => ⟨h.1, h.2.1.mv hal hh, h.2.2.1.al hal, h.2.2.2.1.al hal, h.2.2.2.2.1.mv hal hh, h.2.2.2.2.2.1.there hal hh, h.2.2.2.2.2.2⟩) (fun r U U' V V' h1 hal h2 h => Got.mv r U U' V V' h1 hal h2 h) ?_
  intro p e s m args below meth c s₁ X0 hexec hbytes hml hret hlk hnm hown hh0 W hP
  obtain ⟨rfl, hB, f1, f2, hA, s1, hz, l0, l1, l2, hp⟩ := hP
  have a31 := hA.1.2.2.2
  have c1 : Steps p.tables e below (s₁.setTop (entryFrame m #[.ref a, .ref b, .int (Int32.ofNat o), .int (Int32.ofNat len), .null] 6)) (s₁.setTop (mkF m 0 #[.val (.ref a), .val (.ref b), .val (.int (Int32.ofNat o)), .val (.int (Int32.ofNat len)), .val .null, .unset] [])) := entry rfl
  have c2 : Steps p.tables e below (s₁.setTop (entryFrame m #[.ref a, .ref b, .int (Int32.ofNat o), .int (Int32.ofNat len), .null] 6)) (s₁.setTop (mkF m 1 #[.val (.ref a), .val (.ref b), .val (.int (Int32.ofNat o)), .val (.int (Int32.ofNat len)), .val .null, .unset] [.ref a])) := c1.trans (by
    refine XS.aloadN X0.here hexec rfl (hb hbytes d0) rfl rfl ?_
    exact Steps.refl _)
  obtain ⟨T3, X3, q3, st3⟩ := X0.oinit hexec hown (wks W (objW "java/lang/String" 1)) (g := (mkF m 1 #[.val (.ref a), .val (.ref b), .val (.int (Int32.ofNat o)), .val (.int (Int32.ofNat len)), .val .null, .unset] [.ref a])) rfl (by rw [hml]; rfl) (rest := []) rfl (hb hbytes d1) (W := 0) (by show 2 * 0 + 0 ≤ _; decide) (Nat.le_of_ble_eq_true rfl) (Nat.le_of_ble_eq_true rfl)
  have hh3 := q3.trans hh0
  have c4 : Steps p.tables e below (s₁.setTop (entryFrame m #[.ref a, .ref b, .int (Int32.ofNat o), .int (Int32.ofNat len), .null] 6)) (T3.setTop (mkF m 27 #[.val (.ref a), .val (.ref b), .val (.int (Int32.ofNat o)), .val (.int (Int32.ofNat len)), .val .null, .unset] [])) := (c2.trans (st3 _ (Steps.refl _))).trans (by
    refine XS.iloadN X3.here hexec rfl (hb hbytes d4) rfl ?_
    refine XS.ifYes X3.here hexec rfl (pc0 := 5) rfl (hb hbytes d5) rfl (i0_ne_t (nz32 (by omega) l0)) (by decide) rfl ?_
    exact Steps.refl _)
  obtain ⟨T5, X5, q5, st5⟩ := X3.sget hexec hown (wk W (.fieldLink "java/lang/String" 38 "java/lang/String" "COMPACT_STRINGS" "Z")) s1 (fun _ _ h => by rw [hh3]; exact h) (g := (mkF m 27 #[.val (.ref a), .val (.ref b), .val (.int (Int32.ofNat o)), .val (.int (Int32.ofNat len)), .val .null, .unset] [])) rfl (hb hbytes d27)
  have hh5 := q5.trans hh3
  have c6 : Steps p.tables e below (s₁.setTop (entryFrame m #[.ref a, .ref b, .int (Int32.ofNat o), .int (Int32.ofNat len), .null] 6)) (T5.setTop (mkF m 30 #[.val (.ref a), .val (.ref b), .val (.int (Int32.ofNat o)), .val (.int (Int32.ofNat len)), .val .null, .unset] [.int z])) := c4.trans (st5 _ (Steps.refl _))
  have c7 : Steps p.tables e below (s₁.setTop (entryFrame m #[.ref a, .ref b, .int (Int32.ofNat o), .int (Int32.ofNat len), .null] 6)) (T5.setTop (mkF m 36 #[.val (.ref a), .val (.ref b), .val (.int (Int32.ofNat o)), .val (.int (Int32.ofNat len)), .val .null, .unset] [.int (Int32.ofNat len), .int (Int32.ofNat o), .ref b])) := c6.trans (by
    refine XS.ifNo X5.here hexec rfl (hb hbytes d30) rfl (i0_eq_f hz) ?_
    refine XS.aloadN X5.here hexec rfl (hb hbytes d33) rfl rfl ?_
    refine XS.iloadN X5.here hexec rfl (hb hbytes d34) rfl ?_
    refine XS.iloadN X5.here hexec rfl (hb hbytes d35) rfl ?_
    exact Steps.refl _)
  obtain ⟨v8, T8, X8, E8, g8⟩ := X5.callS hexec (Cmp3.law l b A o len) hown (wks W (staticW "java/lang/String" 177 Cmp3.yN)) (wk W Cmp3.tab) (W := 0) (Nat.le_of_ble_eq_true rfl) (Nat.le_of_ble_eq_true rfl) (Nat.le_refl _) (by show 0 + len ≤ len; omega) (g := (mkF m 36 #[.val (.ref a), .val (.ref b), .val (.int (Int32.ofNat o)), .val (.int (Int32.ofNat len)), .val .null, .unset] [.int (Int32.ofNat len), .int (Int32.ofNat o), .ref b])) rfl (by rw [hml]; rfl) c7 (argsL := [.ref b, .int (Int32.ofNat o), .int (Int32.ofNat len)]) (rest := []) rfl rfl (by show 2 * 0 + 0 ≤ _; decide) (hb hbytes d36) (⟨rfl, hA.mv X5.warmed.alike hh5, l1, l2, hp⟩)
  obtain ⟨e8, z8⟩ := E8
  obtain ⟨rfl, N, n1, n2, n3, n4, n5, n6⟩ := NewArr.mv _ T5 s _ _ hh5.symm (Vm.Alike.refl _) rfl e8
  rw [hh5] at z8
  have hB1 := hB.keep X8.warmed.alike (n6 _ _ hB.1)
  have hne : s.heap.size ≠ a := (Nat.ne_of_lt (Array.getElem?_eq_some_iff.mp hB.1).1).symm
  have c9 : Steps p.tables e below (s₁.setTop (entryFrame m #[.ref a, .ref b, .int (Int32.ofNat o), .int (Int32.ofNat len), .null] 6)) (T8.setTop (mkF m 39 #[.val (.ref a), .val (.ref b), .val (.int (Int32.ofNat o)), .val (.int (Int32.ofNat len)), .val .null, .unset] [.ref s.heap.size])) := g8
  have c10 : Steps p.tables e below (s₁.setTop (entryFrame m #[.ref a, .ref b, .int (Int32.ofNat o), .int (Int32.ofNat len), .null] 6)) (T8.setTop (mkF m 45 #[.val (.ref a), .val (.ref b), .val (.int (Int32.ofNat o)), .val (.int (Int32.ofNat len)), .val .null, .val (.ref s.heap.size)] [.int (Int32.ofNat N.slots.size), .ref s.heap.size, .ref a])) := by
    have hc : Steps p.tables e below (s₁.setTop (entryFrame m #[.ref a, .ref b, .int (Int32.ofNat o), .int (Int32.ofNat len), .null] 6)) (T8.setTop (mkF m 45 #[.val (.ref a), .val (.ref b), .val (.int (Int32.ofNat o)), .val (.int (Int32.ofNat len)), .val .null, .val (.ref s.heap.size)] [.int (Int32.ofNat len), .ref s.heap.size, .ref a])) := c9.trans (by
      refine XS.astore X8.here hexec rfl (hb hbytes d39) rfl rfl rfl ?_
      refine XS.aloadN X8.here hexec rfl (hb hbytes d41) rfl rfl ?_
      refine XS.aload X8.here hexec rfl (hb hbytes d42) rfl rfl ?_
      refine XS.iloadN X8.here hexec rfl (hb hbytes d44) rfl ?_
      exact Steps.refl _)
    rw [n4]; exact hc
  obtain ⟨v11, T11, X11, E11, g11⟩ := X8.callS hexec (CodL.law l s.heap.size N) hown (wks W (staticW "java/lang/String" 47 CodL.yN)) (wk W CodL.tab) (W := 1) (Nat.le_of_ble_eq_true rfl) (Nat.le_of_ble_eq_true rfl) (Nat.le_refl _) (by show 0 + len + 0 ≤ len; omega) (g := (mkF m 45 #[.val (.ref a), .val (.ref b), .val (.int (Int32.ofNat o)), .val (.int (Int32.ofNat len)), .val .null, .val (.ref s.heap.size)] [.int (Int32.ofNat N.slots.size), .ref s.heap.size, .ref a])) rfl (by rw [hml]; rfl) c10 (argsL := [.ref s.heap.size, .int (Int32.ofNat N.slots.size)]) (rest := [.ref a]) rfl rfl (by show 2 * 0 + (1 + 0) ≤ _; decide) (hb hbytes d45) (⟨rfl, n1⟩)
  obtain ⟨rfl, q11⟩ := E11
  have hB11 := hB1.mv (X8.warmed.alike.symm.trans X11.warmed.alike) q11
  have c12 : Steps p.tables e below (s₁.setTop (entryFrame m #[.ref a, .ref b, .int (Int32.ofNat o), .int (Int32.ofNat len), .null] 6)) (T11.setTop (mkF m 48 #[.val (.ref a), .val (.ref b), .val (.int (Int32.ofNat o)), .val (.int (Int32.ofNat len)), .val .null, .val (.ref s.heap.size)] [.int 0, .ref a])) := g11
  obtain ⟨T13, X13, p13, bl13, sl13, st13⟩ := X11.finit hexec hown (wk W (.fieldLink "java/lang/String" 15 "java/lang/String" "coder" "B")) (Or.inr ⟨_, (wk W (.laysFinal "java/lang/String" "java/lang/String" "coder" "B"))⟩) (Or.inl ⟨rfl, hnm⟩) f2 (Or.inl rfl) hB11 (t := .byte) (by decide +kernel) rfl (g := (mkF m 48 #[.val (.ref a), .val (.ref b), .val (.int (Int32.ofNat o)), .val (.int (Int32.ofNat len)), .val .null, .val (.ref s.heap.size)] [.int 0, .ref a])) rfl (rest := []) rfl (hb hbytes d48)
  have c14 : Steps p.tables e below (s₁.setTop (entryFrame m #[.ref a, .ref b, .int (Int32.ofNat o), .int (Int32.ofNat len), .null] 6)) (T13.setTop (mkF m 54 #[.val (.ref a), .val (.ref b), .val (.int (Int32.ofNat o)), .val (.int (Int32.ofNat len)), .val .null, .val (.ref s.heap.size)] [.ref s.heap.size, .ref a])) := (c12.trans (st13 _ (Steps.refl _))).trans (by
    refine XS.aloadN X13.here hexec rfl (hb hbytes d51) rfl rfl ?_
    refine XS.aload X13.here hexec rfl (hb hbytes d52) rfl rfl ?_
    exact Steps.refl _)
  obtain ⟨T15, X15, p15, bl15, sl15, st15⟩ := X13.finit hexec hown (wk W (.fieldLink "java/lang/String" 9 "java/lang/String" "value" "[B")) (Or.inr ⟨_, (wk W (.laysFinal "java/lang/String" "java/lang/String" "value" "[B"))⟩) (Or.inl ⟨rfl, hnm⟩) f1 (Or.inl rfl) bl13 (t := (.array .byte)) (by decide +kernel) rfl (g := (mkF m 54 #[.val (.ref a), .val (.ref b), .val (.int (Int32.ofNat o)), .val (.int (Int32.ofNat len)), .val .null, .val (.ref s.heap.size)] [.ref s.heap.size, .ref a])) rfl (rest := []) rfl (hb hbytes d54)
  have c16 : Steps p.tables e below (s₁.setTop (entryFrame m #[.ref a, .ref b, .int (Int32.ofNat o), .int (Int32.ofNat len), .null] 6)) (T15.setTop (mkF m 57 #[.val (.ref a), .val (.ref b), .val (.int (Int32.ofNat o)), .val (.int (Int32.ofNat len)), .val .null, .val (.ref s.heap.size)] [])) := c14.trans (st15 _ (Steps.refl _))
  have ap := apart (Or.inr ⟨_, (wk W (.laysFinal "java/lang/String" "java/lang/String" "value" "[B"))⟩) (Or.inr ⟨_, (wk W (.laysFinal "java/lang/String" "java/lang/String" "coder" "B"))⟩) f1 f2 (t₁ := .array .byte) (t₂ := .byte) (by decide +kernel) (by decide +kernel) (by decide)
  have al := X8.warmed.alike.symm.trans X15.warmed.alike
  have n7 : T11.heap[s.heap.size]? = some N := by rw [q11]; exact n1.1
  exact ⟨T15, none, _, _, _, X15, by simp, rfl, by omega, (fun _ => rfl), ⟨rfl, _, N, bl15, ((Same.refl D _).set _ (by simp)).set _ (by simp), sl15, (Cell.slots_setSlot_ne _ ap).trans sl13, n1.keep al (p15.other hne (p13.other hne n7)), n2, by rw [al.findClass]; exact n3, n4, n5, fun y c h1 h2 => p15.other h1 (p13.other h1 (by rw [q11]; exact n6 y c h2)), by rw [p15.2.2, p13.2.2, q11]; exact z8⟩, fun fs hl => c16.trans (X15.returnOut hexec hret (hb hbytes d57) hl)⟩
end New4
namespace New1
def yN : MethodName := ⟨"java/lang/String", "<init>", "([C)V"⟩
abbrev yB : ByteArray := jdk_42_method_3_code
theorem d0 : decode yB 0 = .ok (.aload_n 0, 1) := by decide +kernel
theorem d1 : decode yB 1 = .ok (.aload_n 1, 1) := by decide +kernel
theorem d2 : decode yB 2 = .ok (.iconst 0, 1) := by decide +kernel
theorem d3 : decode yB 3 = .ok (.aload_n 1, 1) := by decide +kernel
theorem d4 : decode yB 4 = .ok (.arraylength, 1) := by decide +kernel
theorem d5 : decode yB 5 = .ok (.aconst_null, 1) := by decide +kernel
theorem d6 : decode yB 6 = .ok (.invokespecial 27, 3) := by decide +kernel
theorem d9 : decode yB 9 = .ok (.return_, 1) := by decide +kernel
def site : List Cond := [New4.tab] ++ initW "java/lang/String" 27 New4.yN
def tab : Cond := tabOf yN yB 2 none site
def P (a : Addr) (D : Cell) (fV fC : Field) (b : Addr) (A : Cell) (z : Int32) (args : Array Value) (s : State) : Prop := args = #[.ref a, .ref b] ∧ Blank "java/lang/String" a D s ∧ Found "java/lang/String" "value" "[B" fV s ∧ Found "java/lang/String" "coder" "B" fC s ∧ Ch b A s ∧ StaticIs s "java/lang/String" "COMPACT_STRINGS" "Z" (.int z) ∧ ¬ z = 0 ∧ 0 < A.slots.size ∧ A.slots.size ≤ 536870912 ∧ ∀ i, i < A.slots.size → ¬ 255 < cv A i
def E (a : Addr) (D : Cell) (fV fC : Field) (A : Cell) (r : Option Value) (s u : State) : Prop := Got a D fV fC A 0 A.slots.size r s u
/-- new String(chars), not empty, no char above 255: a Latin-1 String of their low bytes -/
theorem law (l : Launch) (a : Addr) (D : Cell) (fV fC : Field) (b : Addr) (A : Cell) (z : Int32) : Law l yN 2 1 3 52 yB 2 none site (P a D fV fC b A z) (E a D fV fC A) [⟨a, fC.slot⟩, ⟨a, fV.slot⟩] 1 A.slots.size := by
  refine Law.of_walk (plainFor_of_name (by decide +kernel)) (by decide +kernel) (by decide +kernel) (by decide) (fun _ _ h => by rw [h.1]; rfl) (fun _ U U' hal hh h => ⟨h.1, h.2.1.mv hal hh, h.2.2.1.al hal, h.2.2.2.1.al hal, h.2.2.2.2.1.mv hal hh, h.2.2.2.2.2.1.there hal hh, h.2.2.2.2.2.2⟩) (fun r U U' V V' h1 hal h2 h => Got.mv r U U' V V' h1 hal h2 h) ?_
  intro p e s m args below meth c s₁ X0 hexec hbytes hml hret hlk hnm hown hh0 W hP
  obtain ⟨rfl, hB, f1, f2, hA, s1, hz, l0, l2, hp⟩ := hP
  have c1 : Steps p.tables e below (s₁.setTop (entryFrame m #[.ref a, .ref b] 2)) (s₁.setTop (mkF m 0 #[.val (.ref a), .val (.ref b)] [])) := entry rfl
  have c2 : Steps p.tables e below (s₁.setTop (entryFrame m #[.ref a, .ref b] 2)) (s₁.setTop (mkF m 6 #[.val (.ref a), .val (.ref b)] [.null, .int (Int32.ofNat A.slots.size), .int 0, .ref b, .ref a])) := c1.trans (by
    refine XS.aloadN X0.here hexec rfl (hb hbytes d0) rfl rfl ?_
    refine XS.aloadN X0.here hexec rfl (hb hbytes d1) rfl rfl ?_
    refine iconstV X0.here hexec rfl 0 (hb hbytes d2) (by decide) ?_
    refine XS.aloadN X0.here hexec rfl (hb hbytes d3) rfl rfl ?_
    refine X0.alen hexec (hA.1.mv X0.warmed.alike hh0) rfl rfl (hb hbytes d4) ?_
    refine XS.aconstNull X0.here hexec rfl (hb hbytes d5) ?_
    exact Steps.refl _)
  obtain ⟨v3, T3, X3, E3, g3⟩ := X0.callN hexec (New4.law l a D fV fC b A z 0 A.slots.size) rfl hown (wks W (initW "java/lang/String" 27 New4.yN)) (W New4.tab (by simp only [site, List.mem_cons, List.mem_append, true_or, or_true])) (W := 0) (Nat.le_of_ble_eq_true rfl) (Nat.le_of_ble_eq_true rfl) (Nat.le_refl _) (by show 0 + A.slots.size ≤ A.slots.size; omega) (g := (mkF m 6 #[.val (.ref a), .val (.ref b)] [.null, .int (Int32.ofNat A.slots.size), .int (Int32.ofNat 0), .ref b, .ref a])) rfl (by rw [hml]; rfl) c2 (argsL := [.ref b, .int (Int32.ofNat 0), .int (Int32.ofNat A.slots.size), .null]) (rest := []) rfl rfl (by show 2 * 0 + 0 ≤ _; decide) (hb hbytes d6) (⟨rfl, hB.mv X0.warmed.alike hh0, f1.al X0.warmed.alike, f2.al X0.warmed.alike, hA.mv X0.warmed.alike hh0, s1.there X0.warmed.alike hh0, hz, l0, by omega, l2, fun i hi => by rw [Nat.zero_add]; exact hp i hi⟩)
  have e0 := Got.mv _ s₁ s _ _ hh0.symm (Vm.Alike.refl _) rfl E3
  obtain rfl := e0.1
  have c4 : Steps p.tables e below (s₁.setTop (entryFrame m #[.ref a, .ref b] 2)) (T3.setTop (mkF m 9 #[.val (.ref a), .val (.ref b)] [])) := g3
  exact ⟨T3, none, _, _, _, X3, by simp, rfl, by omega, (fun _ => rfl), e0, fun fs hl => c4.trans (X3.returnOut hexec hret (hb hbytes d9) hl)⟩
theorem pays {l : Launch} {R : Room} {p : Program} {e : Env} {below : List Frame} {s : State} {sargs : Array Value} {len W : Nat} (a : Addr) (D : Cell) (fV fC : Field) (b : Addr) (A : Cell) (z : Int32) (htab : tab.before sargs s = true) (hfr : 4 ≤ R.frames) (hlo : W + 65 ≤ R.locals) :
    Back l R p e below s sargs yN len W (fun A₁ a₁ => A₁.cells + 1 ≤ R.cells ∧ A₁.slots + A.slots.size ≤ R.slots ∧ P a D fV fC b A z a₁ A₁.U) (fun A₁ _ v₁ B₁ => E a D fV fC A v₁ A₁.U B₁.U ∧ B₁.locs = A₁.locs ++ [⟨a, fC.slot⟩, ⟨a, fV.slot⟩] ∧ B₁.cells = A₁.cells + 1 ∧ B₁.slots = A₁.slots + A.slots.size) :=
  (law l a D fV fC b A z).pays htab hfr (by omega)
end New1
/-- the byte, read back as charAt reads it, is the char -/
theorem lo8_mask {x : Int32} (h0 : ¬ x < 0) (h1 : ¬ 255 < x) : lo8 x &&& 255 = x := by
  have t : ∀ k : Fin 256, lo8 (Int32.ofNat k.val) &&& 255 = Int32.ofNat k.val := by decide +kernel
  rw [Int32.lt_iff_toInt_lt] at h0 h1
  have e0 : (0 : Int32).toInt = 0 := rfl
  have e1 : (255 : Int32).toInt = 255 := rfl
  obtain ⟨k, hk⟩ : ∃ k : Nat, x.toInt = k := ⟨x.toInt.toNat, by omega⟩
  have hx : x = Int32.ofNat k := Int32.toInt_inj.mp (by rw [hk, Int32.toInt_ofNat_small (by omega)])
  rw [hx]
  exact t ⟨k, by omega⟩
end StrChars
namespace StrChars.Road
open Jvm Sem ClassFile Op Lib Jvm.Stand Jvm.Free Jvm.Free.XT
open Jvm.Lib.Cold (StaticIs)
abbrev ST : String := "java/lang/String"
/-- every table word that New1's law asks, flat -/
abbrev words : List Jvm.Cond := [.code New1.yN New1.yB 2 none, .initialized ST, .methodLink ST 27 New4.yN, .instanceMethod New4.yN,
  .code New4.yN New4.yB 6 none, .fieldLink ST 38 ST "COMPACT_STRINGS" "Z", .laysFinal ST ST "value" "[B", .fieldLink ST 9 ST "value" "[B", .laysFinal ST ST "coder" "B", .fieldLink ST 15 ST "coder" "B",
  .methodLink ST 1 Lib.objectInit, .instanceMethod Lib.objectInit, .code Lib.objectInit ⟨#[0xb1]⟩ 1 none, .methodLink ST 177 Cmp3.yN, .static Cmp3.yN, .methodLink ST 47 CodL.yN, .static CodL.yN,
  .code Cmp3.yN Cmp3.yB 6 (some (.array .byte)), .initialized U16, .arrayClass .byte, .methodLink U16 115 Cmp5.yN, .static Cmp5.yN, .code Cmp5.yN Cmp5.yB 7 (some .int), .code CodL.yN CodL.yB 2 (some .byte)]
theorem tab_of {a : Array Value} {s : State} (h : ∀ w ∈ words, w.before a s = true) : New1.tab.before a s = true := by
  have h5 : Cmp5.tab.before a s = true := unparts (wk h (.code Cmp5.yN Cmp5.yB 7 (some .int))) (wks h (.initialized Cmp5.yN.cls :: Cmp5.site))
  have hc : CodL.tab.before a s = true := unparts (wk h (.code CodL.yN CodL.yB 2 (some .byte))) (wks h (.initialized CodL.yN.cls :: CodL.site))
  have q5 : ∀ w ∈ Cmp5.tab :: words, w.before a s = true := fun w hw => (List.mem_cons.mp hw).elim (fun e => e ▸ h5) (h w)
  have h3 : Cmp3.tab.before a s = true := unparts (wk q5 (.code Cmp3.yN Cmp3.yB 6 (some (.array .byte)))) (wks q5 (.initialized Cmp3.yN.cls :: Cmp3.site))
  have q3 : ∀ w ∈ Cmp3.tab :: CodL.tab :: words, w.before a s = true := fun w hw => (List.mem_cons.mp hw).elim (fun e => e ▸ h3) fun hw => (List.mem_cons.mp hw).elim (fun e => e ▸ hc) (h w)
  have h4 : New4.tab.before a s = true := unparts (wk q3 (.code New4.yN New4.yB 6 none)) (wks q3 (.initialized New4.yN.cls :: New4.site))
  have q4 : ∀ w ∈ New4.tab :: words, w.before a s = true := fun w hw => (List.mem_cons.mp hw).elim (fun e => e ▸ h4) (h w)
  exact unparts (wk q4 (.code New1.yN New1.yB 2 none)) (wks q4 (.initialized New1.yN.cls :: New1.site))
/-- the words ride from the start Z to the walk's own state -/
theorem moved {Z s : State} {a0 args : Array Value} (hZ : Z.Warmed39 s.vm) (hw : ∀ d ∈ words, d.before a0 Z = true) : ∀ d ∈ words, d.before args s = true := fun d hd => by
  have q := hw d hd
  have t : ∀ d ∈ words, d = .arrayClass .byte ∨ (d.onTables && d.keepsFace) = true := by decide +kernel
  rcases t d hd with rfl | t
  · exact RoadKit.mvA hZ q
  · exact RoadKit.mv hZ q t
/-- WHAT COMES BACK, over the tables of the start Z: h the heap at the call, h' behind it -/
def Q (Z : State) (x : Addr) (A : Cell) (h : Heap) (v : Option Value) (h' : Heap) (L : List Loc) : Prop := v = none ∧ (∀ y ∈ L, y.base = x) ∧ RoadKit.Keep h h' [x] ∧ h'.size = h.size + 1 ∧ RoadKit.Exa Z h' x ST ∧ RoadKit.Fld Z h' x ST "value" "[B" (.ref h.size) ∧ RoadKit.Fld Z h' x ST "coder" "B" (.int 0) ∧
  (∃ V : Cell, RoadKit.Arr Z h' h.size V .byte ∧ V.vm = .none ∧ Z.vm.findClass "[B" = some V.cls ∧ V.slots.size = A.slots.size ∧ ∀ j, j < A.slots.size → V.slots[j]? = some (.int (lo8 (cv A j)))) ∧
  ∀ (O n d : String) (w : Value), RoadKit.Fld Z h x O n d w → RoadKit.slotOf Z O n d ≠ RoadKit.slotOf Z ST "value" "[B" → RoadKit.slotOf Z O n d ≠ RoadKit.slotOf Z ST "coder" "B" → RoadKit.Fld Z h' x O n d w
/-- **new String(chars) AT A CALL, IN THE ROAD'S FORM**: for specialBack behind newO: x the fresh String, b the char[] with the cell A -/
theorem back {p : Program} {l : Launch} {e : Env} {R : Room} {s : State} {args : Array Value} {below : List Frame} {len W : Nat} {Z : State} {a0 : Array Value} {h : Heap} (hZ : Z.Warmed39 s.vm) (hw : ∀ d ∈ words, d.before a0 Z = true) {kI : Nat} (wi : (Jvm.Cond.instantiable ST kI).before a0 Z = true)
    {x b : Addr} {A : Cell} {z : Int32} {v0 c0 : Value} (E : RoadKit.Exa Z h x ST) (V : RoadKit.Fld Z h x ST "value" "[B" v0) (C : RoadKit.Fld Z h x ST "coder" "B" c0) (K : RoadKit.Arr Z h b A .char) (hty : Typed .char A) (S : RoadKit.Sta Z h ST "COMPACT_STRINGS" "Z" (.int z)) (hz : ¬ z = 0)
    (l0 : 0 < A.slots.size) (l2 : A.slots.size ≤ 536870912) (hp : ∀ i, i < A.slots.size → ¬ 255 < cv A i) (hfr : 4 ≤ R.frames) (hlo : W + 65 ≤ R.locals) :
    Back l R p e below s args New1.yN len W (fun P a => a = #[.ref x, .ref b] ∧ P.U.heap = h ∧ P.cells + 1 ≤ R.cells ∧ P.slots + A.slots.size ≤ R.slots)
      (fun P _ v B => ∃ L, Q Z x A h v B.U.heap L ∧ B.locs = P.locs ++ L ∧ B.cells = P.cells + 1 ∧ B.slots = P.slots + A.slots.size) := by
  intro m meth c P g ig mk a X hg hsize hdg hW hn hp'
  obtain ⟨rfl, rfl, r1, r2⟩ := hp'
  have al : Z.vm.Alike P.U.vm := hZ.alike.trans X.warmed.alike
  obtain ⟨D, cfV, kV, iV, fV, hD, gV, stV, knV, obV, asV, slV⟩ := id V
  obtain ⟨D', cfC, kC, iC, fC, hD', gC, stC, -, -, asC, slC⟩ := id C
  cases hD.symm.trans hD'
  obtain ⟨D2, kD, e1, e2, e3, e4, e5⟩ := id E
  cases hD.symm.trans e1
  obtain ⟨c2, k2, i1, i2, i3, -⟩ := Cond.instantiable_spec wi
  cases e2.symm.trans i1
  cases e3.symm.trans i2
  obtain ⟨kU, u1, u2⟩ := al.2.2 _ _ e3
  have hB : Blank ST x D P.U := ⟨hD, ⟨knV, fun q hq => by rw [hq] at obV; cases obV⟩, by rw [al.findClass]; exact e2, kU, u1, by rw [u2]; exact i3, by rw [u2]; exact e5 i3⟩
  have F1 : Found ST "value" "[B" fV P.U := ⟨SBG.found_only al ⟨cfV, kV, iV, gV⟩, stV⟩
  have F2 : Found ST "coder" "B" fC P.U := ⟨SBG.found_only al ⟨cfC, kC, iC, gC⟩, stC⟩
  have hA : Ch b A P.U := ⟨⟨K.1, State.isArrayOf_alike al K.2.1, K.2.2, by omega⟩, hty⟩
  have hS : StaticIs P.U ST "COMPACT_STRINGS" "Z" (.int z) := by
    obtain ⟨cfS, iS, kS, fS, st, cS, t1, t2, t3, t4, t5, t6, t7⟩ := S
    exact StaticIs.there (s := { Z with heap := P.U.heap }) ⟨cfS, iS, kS, fS, st, cS, t1, t2, t3, t4, t5, (fun q => by rw [q] at t6; cases t6), t7⟩ al rfl
  obtain ⟨v, B, X', ⟨⟨hv, E', V', q1, q2, q3, q4, q5, q6, q7, q8, q9, q10, q11⟩, hl, hc, hs⟩, st⟩ := New1.pays x D fV fC b A z (tab_of (moved hZ hw)) hfr hlo m meth c P g ig mk _ X hg hsize hdg hW hn ⟨r1, r2, rfl, hB, F1, F2, hA, hS, hz, l0, l2, hp⟩
  have al' : Z.vm.Alike B.U.vm := hZ.alike.trans X'.warmed.alike
  have hsz : E'.slots.size = D.slots.size := by
    obtain ⟨-, -, -, kB, w1, w2, w3⟩ := q1
    obtain ⟨kB', y1, y2⟩ := al'.2.2 _ _ e3
    rw [q2.2.1] at w1
    cases w1.symm.trans y1
    rw [w3, e5 i3, y2]
  refine ⟨v, B, X', ⟨_, ⟨hv, ?_, ⟨by omega, fun y cy hy hn' => q10 y cy (by simpa using hn') hy, fun y cy hy => ?_⟩, q11, ⟨E', _, q1.1, by rw [q2.2.1]; exact e2, by rw [q2.2.1]; exact e3, by rw [q2.1]; exact obV, fun _ => by rw [hsz]; exact e5 i3⟩,
    ⟨E', cfV, kV, iV, fV, q1.1, gV, stV, by rw [q2.1]; exact knV, by rw [q2.1]; exact obV, by rw [q2.2.1]; exact asV, q3⟩, ⟨E', cfC, kC, iC, fC, q1.1, gC, stC, by rw [q2.1]; exact knV, by rw [q2.1]; exact obV, by rw [q2.2.1]; exact asC, q4⟩,
    ⟨V', ⟨q5.1, State.isArrayOf_alike al'.symm q5.2.1, q5.2.2.1⟩, q6, by rw [← al'.findClass]; exact q7, q8, fun j hj => by have := q9 j hj; rwa [Nat.zero_add] at this⟩, fun O n d w F n1 n2 => ?_⟩, hl, hc, hs⟩, st⟩
  · intro y hy
    simp only [List.mem_cons, List.not_mem_nil, or_false] at hy
    rcases hy with rfl | rfl <;> rfl
  · by_cases q : y = x
    · subst q
      cases hD.symm.trans hy
      exact ⟨E', q1.1, q2.2.1, q2.1, hsz⟩
    · exact ⟨cy, q10 y cy q hy, rfl, rfl, rfl⟩
  · obtain ⟨D3, cf, k, i, f, g1, g2, g3, g4, g5, g6, g7⟩ := F
    cases hD.symm.trans g1
    simp only [RoadKit.slotOf, g2, gV, gC, Option.map_some, Option.getD_some] at n1 n2
    exact ⟨E', cf, k, i, f, q1.1, g2, g3, by rw [q2.1]; exact g4, by rw [q2.1]; exact g5, by rw [q2.2.1]; exact g6, by rw [q2.2.2 f.slot (by simp [n1, n2])]; exact g7⟩
end StrChars.Road
namespace StrChars.Road
open Jvm Sem ClassFile Op Lib Jvm.Stand Jvm.Free Jvm.Free.XT
/-- WHAT COMES BACK, the byte[] as a list of values -/
def QA (Z : State) (x : Addr) (zn : Int32) (cs : List Int32) (h : Heap) (v : Option Value) (h' : Heap) (L : List Loc) : Prop := v = none ∧ (∀ y ∈ L, y.base = x) ∧ RoadKit.Keep h h' [x] ∧ h'.size = h.size + 1 ∧ RoadKit.Exa Z h' x ST ∧ RoadKit.Fld Z h' x ST "value" "[B" (.ref h.size) ∧ RoadKit.Fld Z h' x ST "coder" "B" (.int 0) ∧
  (∃ kb, Z.vm.findClass "[B" = some kb ∧ RoadKit.Arv Z h' h.size kb .byte zn (cs.map fun c => .int (lo8 c)) (.int 0)) ∧
  ∀ (O n d : String) (w : Value), RoadKit.Fld Z h x O n d w → RoadKit.slotOf Z O n d ≠ RoadKit.slotOf Z ST "value" "[B" → RoadKit.slotOf Z O n d ≠ RoadKit.slotOf Z ST "coder" "B" → RoadKit.Fld Z h' x O n d w
/-- **new String(chars) AT A CALL, THE ARRAYS AS LISTS**: the char[] at b holds cs, not empty, no char above 255 -/
theorem backArv {p : Program} {l : Launch} {e : Env} {R : Room} {s : State} {args : Array Value} {below : List Frame} {len W : Nat} {Z : State} {a0 : Array Value} {h : Heap} (hZ : Z.Warmed39 s.vm) (hw : ∀ d ∈ words, d.before a0 Z = true) {kI : Nat} (wi : (Jvm.Cond.instantiable ST kI).before a0 Z = true)
    {x b : Addr} {k : ClassId} {zn z : Int32} {cs : List Int32} {dv v0 c0 : Value} (E : RoadKit.Exa Z h x ST) (V : RoadKit.Fld Z h x ST "value" "[B" v0) (C : RoadKit.Fld Z h x ST "coder" "B" c0) (K : RoadKit.Arv Z h b k .char zn (cs.map Value.int) dv) (S : RoadKit.Sta Z h ST "COMPACT_STRINGS" "Z" (.int z)) (hz : ¬ z = 0)
    (hlen : zn.toNatClampNeg = cs.length) (h0 : 0 < cs.length) (hbig : cs.length ≤ 536870912) (hall : ∀ c ∈ cs, ¬ 255 < c) (hfr : 4 ≤ R.frames) (hlo : W + 65 ≤ R.locals) :
    Back l R p e below s args New1.yN len W (fun P a => a = #[.ref x, .ref b] ∧ P.U.heap = h ∧ P.cells + 1 ≤ R.cells ∧ P.slots + cs.length ≤ R.slots)
      (fun P _ v B => ∃ L, QA Z x zn cs h v B.U.heap L ∧ B.locs = P.locs ++ L ∧ B.cells = P.cells + 1 ∧ B.slots = P.slots + cs.length) := by
  obtain ⟨A, K1, K2, K3, K4, K5, K6⟩ := K
  have e : A.slots.size = cs.length := K3.trans hlen
  have hat : ∀ (i : Nat) (hi : i < cs.length), A.slots[i]? = some (.int cs[i]) := fun i hi => by rw [K5 i (by omega)]; simp [List.getD_eq_getElem?_getD, hi]
  have hcv : ∀ (i : Nat) (hi : i < cs.length), cv A i = cs[i] := fun i hi => by unfold cv; rw [hat i hi]
  have hty : Typed .char A := fun i v hv => by
    have hi : i < A.slots.size := (Array.getElem?_eq_some_iff.mp hv).1
    have q := K5 i hi
    rw [hv] at q
    rw [Option.some.inj q]
    exact K6 i hi
  refine Back.mono (back hZ hw wi E V C K1 hty S hz (by omega) (by omega) (fun i hi => by rw [hcv i (by omega)]; exact hall _ (List.getElem_mem _)) hfr hlo) (fun P a hp => ⟨hp.1, hp.2.1, hp.2.2.1, by rw [e]; exact hp.2.2.2⟩) (fun P a v B hp hq => ?_)
  obtain ⟨L, ⟨q1, q2, q3, q4, q5, q6, q7, ⟨V', v1, v2, v3, v4, v5⟩, q9⟩, hl, hc, hs⟩ := hq
  refine ⟨L, ⟨q1, q2, q3, q4, q5, q6, q7, ⟨V'.cls, v3, V', v1, rfl, by rw [v4, e, hlen], K4, fun i hi => ?_, fun i hi => ?_⟩, q9⟩, hl, hc, by rw [hs, e]⟩
  · have hi' : i < cs.length := by omega
    rw [v5 i (by omega), hcv i hi']; simp [List.getD_eq_getElem?_getD, hi']
  · have hi' : i < cs.length := by omega
    simp only [List.getD_eq_getElem?_getD, List.getElem?_map, List.getElem?_eq_getElem hi', Option.map_some, Option.getD_some]
    exact fits_lo8 _
end StrChars.Road
namespace StrChars.Road
open Jvm Sem ClassFile Op Lib Jvm.Stand Jvm.Free Jvm.Free.XT
/-- WHAT COMES BACK, in the writer's own shape -/
def QV (Z : State) (x : Addr) (N : Int32) (bs : List Int32) (h : Heap) (n0 : Nat) (v : Option Value) (h' : Heap) (L : List Loc) : Prop := v = none ∧ RoadKit.Fr n0 L ∧ RoadKit.Keep h h' [x] ∧ RoadKit.Exa Z h' x ST ∧ RoadKit.Fld Z h' x ST "coder" "B" (.int 0) ∧
  ∃ (t : Addr) (kb : ClassId), n0 ≤ t ∧ h.size ≤ t ∧ ¬ t = x ∧ RoadKit.Fld Z h' x ST "value" "[B" (.ref t) ∧ RoadKit.Arv Z h' t kb .byte N (bs.map Value.int) (.int 0)
/-- **new String(chars) AT A CALL, FOR THE WRITER**: a char[] of n known ints, each 0 to 255 -/
theorem backV {p : Program} {l : Launch} {e : Env} {R : Room} {s : State} {args : Array Value} {below : List Frame} {len W : Nat} {Z : State} {a0 : Array Value} {h : Heap} (hZ : Z.Warmed39 s.vm) (hw : ∀ d ∈ words, d.before a0 Z = true) {kI : Nat} (wi : (Jvm.Cond.instantiable ST kI).before a0 Z = true)
    {x b : Addr} {kC : ClassId} {cs bs : List Int32} {d v0 c0 : Value} {z N : Int32} {n n0 : Nat} (hx0 : n0 ≤ x) (hh0 : n0 ≤ h.size) (E : RoadKit.Exa Z h x ST) (V : RoadKit.Fld Z h x ST "value" "[B" v0) (C : RoadKit.Fld Z h x ST "coder" "B" c0) (K : RoadKit.Arv Z h b kC .char N (cs.map Value.int) d) (S : RoadKit.Sta Z h ST "COMPACT_STRINGS" "Z" (.int z)) (hz : ¬ z = 0)
    (hn : cs.length = n) (hN : N = Int32.ofNat n) (l0 : 0 < n) (l2 : n ≤ 4000) (hp : ∀ c ∈ cs, ¬ c < 0 ∧ ¬ (255 : Int32) < c) (hb : bs = cs.map (fun c => c.toInt8.toInt32)) (hfr : 4 ≤ R.frames) (hlo : W + 65 ≤ R.locals) :
    Back l R p e below s args (⟨"java/lang/String", "<init>", "([C)V"⟩ : MethodName) len W (fun P a => a = #[.ref x, .ref b] ∧ P.U.heap = h ∧ P.cells + 1 ≤ R.cells ∧ P.slots + n ≤ R.slots)
      (fun P _ v B => ∃ L, QV Z x N bs h n0 v B.U.heap L ∧ B.locs = P.locs ++ L ∧ B.cells = P.cells + 1 ∧ B.slots = P.slots + n) := by
  subst hn hN hb
  refine Back.mono (backArv hZ hw wi E V C K S hz (n32 (by omega)) l0 (by omega) (fun c hc => (hp c hc).2) hfr hlo) (fun P a hp => hp) (fun P a v B hp hq => ?_)
  obtain ⟨L, ⟨q1, q2, q3, q4, q5, q6, q7, ⟨kb, v1, v2⟩, q9⟩, hl, hc, hs⟩ := hq
  exact ⟨L, ⟨q1, fun y hy => by rw [q2 y hy]; exact hx0, q3, q5, q7, h.size, kb, hh0, Nat.le_refl _, Nat.ne_of_gt E.lt, q6, by rw [List.map_map]; exact v2⟩, hl, hc, hs⟩
end StrChars.Road
namespace StrChars
open Jvm Sem ClassFile Op Lib Jvm.Stand Jvm.Free.XT Jvm.Free.ALB Jvm.Free.JM Jvm.Free
open Jvm.Lib.Cold (StaticIs)
def hi8 (x : Int32) : Int32 := lo8 (x >>> ((8 : Int32) &&& 31))
/-- what StringUTF16.getChar makes of two bytes -/
def pairCh (u v : Int32) : Int32 := (((u &&& 255) <<< ((0 : Int32) &&& 31)) ||| ((v &&& 255) <<< ((8 : Int32) &&& 31))).toUInt32.toUInt16.toUInt32.toInt32
theorem shr0 (c : Int32) : c >>> ((0 : Int32) &&& 31) = c := by
  have e : ((0 : Int32) &&& 31) = 0 := by decide
  rw [e]
  apply Int32.toBitVec_inj.mp
  rw [Int32.toBitVec_shiftRight]
  have e1 : ((0 : Int32).toBitVec.smod 32) = 0#32 := by decide
  rw [e1, BitVec.sshiftRight_eq']
  exact BitVec.sshiftRight_zero
theorem lo8_and (x : Int32) : (lo8 x &&& 255).toBitVec.toNat = x.toBitVec.toNat % 256 := by
  have h : (lo8 x).toBitVec = (x.toBitVec.signExtend 8).signExtend 32 := by rw [lo8, Int8.toBitVec_toInt32, Int32.toBitVec_toInt8]
  rw [Int32.toBitVec_and, BitVec.toNat_and, h]
  have e : ((x.toBitVec.signExtend 8).signExtend 32).toNat % 256 = x.toBitVec.toNat % 256 := by
    rw [BitVec.toNat_signExtend]
    have hlt := x.toBitVec.isLt
    simp only [BitVec.toNat_setWidth, BitVec.toNat_signExtend]
    split <;> split <;> omega
  rw [← e]
  exact Nat.and_two_pow_sub_one_eq_mod _ 8
theorem pair_says {c : Int32} (h0 : ¬ c < 0) (h1 : ¬ 65535 < c) : pairCh (lo8 c) (hi8 c) = c := by
  rw [Int32.lt_iff_toInt_lt] at h0 h1
  have e0 : (0 : Int32).toInt = 0 := rfl
  have e1 : (65535 : Int32).toInt = 65535 := rfl
  have hc : c.toInt = c.toBitVec.toNat := by
    have := c.toBitVec.isLt
    have e : c.toInt = c.toBitVec.toInt := rfl
    rw [e] at h0 h1
    rw [e]
    rw [BitVec.toInt_eq_toNat_cond] at h0 h1 ⊢
    split at h0 <;> split <;> omega
  have hn : c.toBitVec.toNat < 65536 := by omega
  have a1 := lo8_and c
  have a2 : (hi8 c &&& 255).toBitVec.toNat = c.toBitVec.toNat / 256 := by
    rw [hi8, lo8_and]
    have e : ((8 : Int32) &&& 31) = 8 := by decide
    rw [e, Int32.toBitVec_shiftRight]
    have e2 : ((8 : Int32).toBitVec.smod 32) = 8#32 := by decide
    rw [e2, BitVec.sshiftRight_eq', BitVec.toNat_sshiftRight_of_msb_false (by rw [BitVec.msb_eq_false_iff_two_mul_lt]; omega)]
    show c.toBitVec.toNat >>> 8 % 256 = _
    rw [Nat.shiftRight_eq_div_pow]
    omega
  unfold pairCh
  apply Int32.toBitVec_inj.mp
  apply BitVec.eq_of_toNat_eq
  have f0 : ((0 : Int32) &&& 31) = 0 := by decide
  have f8 : ((8 : Int32) &&& 31) = 8 := by decide
  rw [f0, f8]
  have g : (((lo8 c &&& 255) <<< (0 : Int32)) ||| ((hi8 c &&& 255) <<< (8 : Int32))).toBitVec.toNat = c.toBitVec.toNat := by
    rw [Int32.toBitVec_or, Int32.toBitVec_shiftLeft, Int32.toBitVec_shiftLeft]
    have s0 : ((0 : Int32).toBitVec.smod 32) = 0#32 := by decide
    have s8 : ((8 : Int32).toBitVec.smod 32) = 8#32 := by decide
    rw [s0, s8, BitVec.toNat_or]
    simp only [BitVec.shiftLeft_eq', BitVec.toNat_shiftLeft, a1, a2]
    show (c.toBitVec.toNat % 256) <<< 0 % 2 ^ 32 ||| (c.toBitVec.toNat / 256) <<< 8 % 2 ^ 32 = _
    rw [Nat.shiftLeft_zero, Nat.mod_eq_of_lt (show c.toBitVec.toNat % 256 < 2 ^ 32 by omega), Nat.mod_eq_of_lt (show (c.toBitVec.toNat / 256) <<< 8 < 2 ^ 32 by rw [Nat.shiftLeft_eq]; omega), Nat.or_comm, ← Nat.shiftLeft_add_eq_or_of_lt (by omega), Nat.shiftLeft_eq]
    omega
  show BitVec.toNat (((((lo8 c &&& 255) <<< (0 : Int32)) ||| ((hi8 c &&& 255) <<< (8 : Int32))).toBitVec.setWidth 16).setWidth 32) = _
  rw [BitVec.toNat_setWidth, BitVec.toNat_setWidth, g]
  omega
end StrChars
namespace StrChars
open Jvm Sem ClassFile Op Lib Jvm.Stand Jvm.Free.XT Jvm.Free.ALB Jvm.Free.JM Jvm.Free
open Jvm.Lib.Cold (StaticIs)
theorem shr1 {n : Nat} (h : 2 * n < 2 ^ 31) : Int32.ofNat (2 * n) >>> ((1 : Int32) &&& 31) = Int32.ofNat n := by
  have e : ((1 : Int32) &&& 31) = 1 := by decide
  rw [e]
  apply Int32.toBitVec_inj.mp
  rw [Int32.toBitVec_shiftRight]
  have e1 : ((1 : Int32).toBitVec.smod 32) = 1#32 := by decide
  have hm : (BitVec.ofNat 32 (2 * n)).toNat = 2 * n := by rw [BitVec.toNat_ofNat, Nat.mod_eq_of_lt (by omega)]
  rw [e1, BitVec.sshiftRight_eq']
  apply BitVec.eq_of_toNat_eq
  show ((BitVec.ofNat 32 (2 * n)).sshiftRight 1).toNat = (BitVec.ofNat 32 n).toNat
  rw [BitVec.toNat_sshiftRight_of_msb_false (by rw [BitVec.msb_eq_false_iff_two_mul_lt, hm]; omega), hm, BitVec.toNat_ofNat, Nat.shiftRight_eq_div_pow]
  omega
/-- charAt's cast of a byte read back -/
def chr8 (u : Int32) : Int32 := (u &&& 255).toUInt32.toUInt16.toUInt32.toInt32
theorem chr8_lo8 {c : Int32} (h0 : ¬ c < 0) (h1 : ¬ 255 < c) : chr8 (lo8 c) = c := by
  have t : ∀ k : Fin 256, (Int32.ofNat k.val).toUInt32.toUInt16.toUInt32.toInt32 = Int32.ofNat k.val := by decide +kernel
  unfold chr8
  rw [lo8_mask h0 h1]
  rw [Int32.lt_iff_toInt_lt] at h0 h1
  have e0 : (0 : Int32).toInt = 0 := rfl
  have e1 : (255 : Int32).toInt = 255 := rfl
  obtain ⟨k, hk⟩ : ∃ k : Nat, c.toInt = k := ⟨c.toInt.toNat, by omega⟩
  have hx : c = Int32.ofNat k := Int32.toInt_inj.mp (by rw [hk, Int32.toInt_ofNat_small (by omega)])
  rw [hx]
  exact t ⟨k, by omega⟩
theorem narrow_ch {c : Int32} (h0 : ¬ c < 0) (h1 : ¬ 65535 < c) : narrow .char (.int c) = .int c := by
  have q : narrow .char (.int (pairCh (lo8 c) (hi8 c))) = .int (pairCh (lo8 c) (hi8 c)) := narrow_c _
  rwa [pair_says h0 h1] at q
/-- the array's cell V codes the n chars f 0 .. f (n - 1) by the coder cd, as the JDK does: coder 1 just where some char is above 255 -/
def Cod (cd : Int32) (n : Nat) (f : Nat → Int32) (V : Cell) : Prop := (cd = 0 ∧ V.slots.size = n ∧ ∀ j, j < n → V.slots[j]? = some (.int (lo8 (f j))) ∧ ¬ 255 < f j) ∨ (cd = 1 ∧ V.slots.size = 2 * n ∧ (∀ j, j < n → V.slots[2 * j]? = some (.int (lo8 (f j))) ∧ V.slots[2 * j + 1]? = some (.int (hi8 (f j)))) ∧ ∃ j, j < n ∧ 255 < f j)
theorem Cod.cd {cd : Int32} {n : Nat} {f : Nat → Int32} {V : Cell} (h : Cod cd n f V) : cd = 0 ∨ cd = 1 := h.imp (fun q => q.1) fun q => q.1
theorem Cod.len {cd : Int32} {n : Nat} {f : Nat → Int32} {V : Cell} (h : Cod cd n f V) (hs : V.slots.size < 2 ^ 31) : Int32.ofNat V.slots.size >>> (cd &&& 31) = Int32.ofNat n := by
  rcases h with ⟨rfl, h, -⟩ | ⟨rfl, h, -⟩
  · rw [shr0, h]
  · rw [h, shr1 (by omega)]
/-- **x is a String of the n chars f 0 .. f (n - 1)**, Latin-1 or UTF-16; its array at t has the cell V -/
def Txt (x t : Addr) (V : Cell) (cd : Int32) (n : Nat) (f : Nat → Int32) (U : State) : Prop := Exact "java/lang/String" x U ∧ Has x "java/lang/String" "value" "[B" (.ref t) U ∧ Has x "java/lang/String" "coder" "B" (.int cd) U ∧ XT.Arr .byte t V U ∧ Cod cd n f V ∧ ∀ j, j < n → ¬ f j < 0 ∧ ¬ 65535 < f j
theorem Txt.mv {x t : Addr} {V : Cell} {cd : Int32} {n : Nat} {f : Nat → Int32} {U U' : State} (h : Txt x t V cd n f U) (hal : U.vm.Alike U'.vm) (hh : U'.heap = U.heap) : Txt x t V cd n f U' := ⟨h.1.mv hal hh, h.2.1.mv hal hh, h.2.2.1.mv hal hh, h.2.2.2.1.mv hal hh, h.2.2.2.2⟩
namespace Cdr
def yN : MethodName := ⟨"java/lang/String", "coder", "()B"⟩
abbrev yB : ByteArray := jdk_42_method_152_code
theorem d0 : decode yB 0 = .ok (.getstatic 38, 3) := by decide +kernel
theorem d3 : decode yB 3 = .ok (.ifCond (.eq) 10, 3) := by decide +kernel
theorem d6 : decode yB 6 = .ok (.aload_n 0, 1) := by decide +kernel
theorem d7 : decode yB 7 = .ok (.getfield 15, 3) := by decide +kernel
theorem d10 : decode yB 10 = .ok (.goto 4, 3) := by decide +kernel
theorem d14 : decode yB 14 = .ok (.ireturn, 1) := by decide +kernel
def site : List Cond := [.fieldLink "java/lang/String" 38 "java/lang/String" "COMPACT_STRINGS" "Z", .fieldLink "java/lang/String" 15 "java/lang/String" "coder" "B"]
def tab : Cond := tabOf yN yB 1 (some .byte) site
def P (x : Addr) (cd z : Int32) (args : Array Value) (s : State) : Prop := args = #[.ref x] ∧ Has x "java/lang/String" "coder" "B" (.int cd) s ∧ (cd = 0 ∨ cd = 1) ∧ StaticIs s "java/lang/String" "COMPACT_STRINGS" "Z" (.int z) ∧ ¬ z = 0
def E (cd : Int32) (r : Option Value) (s u : State) : Prop := XT.PureE (some (.int cd)) r s u
theorem law (l : Launch) (x : Addr) (cd z : Int32) : Law l yN 1 0 0 0 yB 1 (some .byte) site (P x cd z) (E cd) [] 0 0 := by
  refine Law.of_walk (plainFor_of_name (by decide +kernel)) (by decide +kernel) (by decide +kernel) (by decide) (fun _ _ h => by rw [h.1]; rfl) (fun _ U U' hal hh h => ⟨h.1, h.2.1.mv hal hh, h.2.2.1, h.2.2.2.1.there hal hh, h.2.2.2.2⟩) (fun r U U' V V' h1 hal h2 h => XT.PureE.mv r U U' V V' h1 hal h2 h) ?_
  intro p e s m args below meth c s₁ X0 hexec hbytes hml hret hlk hnm hown hh0 W hP
  obtain ⟨rfl, hx, hc, s1, hz⟩ := hP
  have c1 : Steps p.tables e below (s₁.setTop (entryFrame m #[.ref x] 1)) (s₁.setTop (mkF m 0 #[.val (.ref x)] [])) := entry rfl
  obtain ⟨T2, X2, q2, st2⟩ := X0.sget hexec hown (wk W (.fieldLink "java/lang/String" 38 "java/lang/String" "COMPACT_STRINGS" "Z")) s1 (fun _ _ h => by rw [hh0]; exact h) (g := (mkF m 0 #[.val (.ref x)] [])) rfl (hb hbytes d0)
  have hh2 := q2.trans hh0
  have c3 : Steps p.tables e below (s₁.setTop (entryFrame m #[.ref x] 1)) (T2.setTop (mkF m 7 #[.val (.ref x)] [.ref x])) := (c1.trans (st2 _ (Steps.refl _))).trans (by
    refine XS.ifNo X2.here hexec rfl (hb hbytes d3) rfl (i0_eq_f hz) ?_
    refine XS.aloadN X2.here hexec rfl (hb hbytes d6) rfl rfl ?_
    exact Steps.refl _)
  obtain ⟨T4, X4, q4, st4⟩ := X2.hget hexec hown (wk W (.fieldLink "java/lang/String" 15 "java/lang/String" "coder" "B")) (hx.mv X2.warmed.alike hh2) (g := (mkF m 7 #[.val (.ref x)] [.ref x])) rfl (rest := []) rfl (hb hbytes d7)
  have c5 : Steps p.tables e below (s₁.setTop (entryFrame m #[.ref x] 1)) (T4.setTop (mkF m 14 #[.val (.ref x)] [.int cd])) := (c3.trans (st4 _ (Steps.refl _))).trans (by
    refine XS.goto X4.here hexec rfl (pc0 := 10) rfl (hb hbytes d10) (by decide) rfl ?_
    exact Steps.refl _)
  exact ⟨T4, some (.int cd), _, _, _, X4, rfl, rfl, rfl, (fun h => by cases h), ⟨rfl, q4.trans hh2⟩, fun fs hl => c5.trans (X4.ireturnOut hexec hret (by rcases hc with rfl | rfl <;> rfl) (Or.inr (Or.inr (Or.inl rfl))) (hb hbytes d14) hl)⟩
end Cdr
namespace Len
def yN : MethodName := ⟨"java/lang/String", "length", "()I"⟩
abbrev yB : ByteArray := jdk_42_method_54_code
theorem d0 : decode yB 0 = .ok (.aload_n 0, 1) := by decide +kernel
theorem d1 : decode yB 1 = .ok (.getfield 9, 3) := by decide +kernel
theorem d4 : decode yB 4 = .ok (.arraylength, 1) := by decide +kernel
theorem d5 : decode yB 5 = .ok (.aload_n 0, 1) := by decide +kernel
theorem d6 : decode yB 6 = .ok (.invokevirtual 335, 3) := by decide +kernel
theorem d9 : decode yB 9 = .ok (.ishr, 1) := by decide +kernel
theorem d10 : decode yB 10 = .ok (.ireturn, 1) := by decide +kernel
def site : List Cond := [.fieldLink "java/lang/String" 9 "java/lang/String" "value" "[B", Cdr.tab] ++ virtW "java/lang/String" 335 "java/lang/String" Cdr.yN Cdr.yN
def tab : Cond := tabOf yN yB 1 (some .int) site
def P (x t : Addr) (V : Cell) (cd : Int32) (n : Nat) (f : Nat → Int32) (z : Int32) (args : Array Value) (s : State) : Prop := args = #[.ref x] ∧ Txt x t V cd n f s ∧ StaticIs s "java/lang/String" "COMPACT_STRINGS" "Z" (.int z) ∧ ¬ z = 0
def E (n : Nat) (r : Option Value) (s u : State) : Prop := XT.PureE (some (.int (Int32.ofNat n))) r s u
/-- length() of a String of n chars, in either coding -/
theorem law (l : Launch) (x t : Addr) (V : Cell) (cd : Int32) (n : Nat) (f : Nat → Int32) (z : Int32) : Law l yN 1 0 1 13 yB 1 (some .int) site (P x t V cd n f z) (E n) [] 0 0 := by
  refine Law.of_walk (plainFor_of_name (by decide +kernel)) (by decide +kernel) (by decide +kernel) (by decide) (fun _ _ h => by rw [h.1]; rfl) (fun _ U U' hal hh h => ⟨h.1, h.2.1.mv hal hh, h.2.2.1.there hal hh, h.2.2.2⟩) (fun r U U' V V' h1 hal h2 h => XT.PureE.mv r U U' V V' h1 hal h2 h) ?_
  intro p e s m args below meth c s₁ X0 hexec hbytes hml hret hlk hnm hown hh0 W hP
  obtain ⟨rfl, hx, s1, hz⟩ := hP
  have v31 := hx.2.2.2.1.2.2.2
  have c1 : Steps p.tables e below (s₁.setTop (entryFrame m #[.ref x] 1)) (s₁.setTop (mkF m 1 #[.val (.ref x)] [.ref x])) := Steps.trans (entry rfl) (by
    show Steps p.tables e below (s₁.setTop (mkF m 0 #[.val (.ref x)] [])) _
    refine XS.aloadN X0.here hexec rfl (hb hbytes d0) rfl rfl ?_
    exact Steps.refl _)
  obtain ⟨T2, X2, q2, st2⟩ := X0.hget hexec hown (wk W (.fieldLink "java/lang/String" 9 "java/lang/String" "value" "[B")) (hx.mv X0.warmed.alike hh0).2.1 (g := (mkF m 1 #[.val (.ref x)] [.ref x])) rfl (rest := []) rfl (hb hbytes d1)
  have hh2 := q2.trans hh0
  have hx2 := hx.mv X2.warmed.alike hh2
  have c3 : Steps p.tables e below (s₁.setTop (entryFrame m #[.ref x] 1)) (T2.setTop (mkF m 6 #[.val (.ref x)] [.ref x, .int (Int32.ofNat V.slots.size)])) := (c1.trans (st2 _ (Steps.refl _))).trans (by
    refine X2.alen hexec hx2.2.2.2.1 rfl rfl (hb hbytes d4) ?_
    refine XS.aloadN X2.here hexec rfl (hb hbytes d5) rfl rfl ?_
    exact Steps.refl _)
  obtain ⟨v4, T4, X4, E4, g4⟩ := X2.callV hexec (Cdr.law l x cd z) hown (wks W (virtW "java/lang/String" 335 "java/lang/String" Cdr.yN Cdr.yN)) rfl (by decide) (wk W Cdr.tab) (W := 1) (Nat.le_of_ble_eq_true rfl) (Nat.le_of_ble_eq_true rfl) (Nat.le_refl _) (Nat.le_refl _) (hx2.1.fc X2.warmed.alike) hx2.1.is (g := (mkF m 6 #[.val (.ref x)] [.ref x, .int (Int32.ofNat V.slots.size)])) rfl (by rw [hml]; rfl) c3 (argsL := []) (rest := [.int (Int32.ofNat V.slots.size)]) rfl rfl (by show 2 * 0 + (1 + 0) ≤ _; decide) (hb hbytes d6) (⟨rfl, hx2.2.2.1, hx.2.2.2.2.1.cd, s1.there X2.warmed.alike hh2, hz⟩)
  obtain ⟨rfl, q4⟩ := E4
  have c5 : Steps p.tables e below (s₁.setTop (entryFrame m #[.ref x] 1)) (T4.setTop (mkF m 10 #[.val (.ref x)] [.int (Int32.ofNat V.slots.size >>> (cd &&& 31))])) := Steps.trans g4 (by
    refine ishr X4.here hexec rfl (hb hbytes d9) rfl ?_
    exact Steps.refl _)
  rw [hx.2.2.2.2.1.len v31] at c5
  exact ⟨T4, some (.int (Int32.ofNat n)), _, _, _, X4, rfl, rfl, rfl, (fun h => by cases h), ⟨rfl, q4.trans hh2⟩, fun fs hl => c5.trans (X4.ireturnOut hexec hret rfl (Or.inl rfl) (hb hbytes d10) hl)⟩
theorem pays {l : Launch} {R : Room} {p : Program} {e : Env} {below : List Frame} {s : State} {sargs : Array Value} {len W : Nat} (x t : Addr) (V : Cell) (cd : Int32) (n : Nat) (f : Nat → Int32) (z : Int32) (htab : tab.before sargs s = true) (hfr : 2 ≤ R.frames) (hlo : W + 25 ≤ R.locals) :
    Back l R p e below s sargs yN len W (fun A₁ a₁ => A₁.cells + 0 ≤ R.cells ∧ A₁.slots + 0 ≤ R.slots ∧ P x t V cd n f z a₁ A₁.U) (fun A₁ _ v₁ B₁ => E n v₁ A₁.U B₁.U ∧ B₁.locs = A₁.locs ++ [] ∧ B₁.cells = A₁.cells + 0 ∧ B₁.slots = A₁.slots + 0) :=
  (law l x t V cd n f z).pays htab hfr (by omega)
end Len
namespace IsL
def yN : MethodName := ⟨"java/lang/String", "isLatin1", "()Z"⟩
abbrev yB : ByteArray := jdk_42_method_154_code
theorem d0 : decode yB 0 = .ok (.getstatic 38, 3) := by decide +kernel
theorem d3 : decode yB 3 = .ok (.ifCond (.eq) 14, 3) := by decide +kernel
theorem d6 : decode yB 6 = .ok (.aload_n 0, 1) := by decide +kernel
theorem d7 : decode yB 7 = .ok (.getfield 15, 3) := by decide +kernel
theorem d10 : decode yB 10 = .ok (.ifCond (.ne) 7, 3) := by decide +kernel
theorem d13 : decode yB 13 = .ok (.iconst 1, 1) := by decide +kernel
theorem d14 : decode yB 14 = .ok (.goto 4, 3) := by decide +kernel
theorem d17 : decode yB 17 = .ok (.iconst 0, 1) := by decide +kernel
theorem d18 : decode yB 18 = .ok (.ireturn, 1) := by decide +kernel
def site : List Cond := [.fieldLink "java/lang/String" 38 "java/lang/String" "COMPACT_STRINGS" "Z", .fieldLink "java/lang/String" 15 "java/lang/String" "coder" "B"]
def tab : Cond := tabOf yN yB 1 (some .boolean) site
def P (x : Addr) (cd z : Int32) (args : Array Value) (s : State) : Prop := args = #[.ref x] ∧ Has x "java/lang/String" "coder" "B" (.int cd) s ∧ (cd = 0 ∨ cd = 1) ∧ StaticIs s "java/lang/String" "COMPACT_STRINGS" "Z" (.int z) ∧ ¬ z = 0
def E (cd : Int32) (r : Option Value) (s u : State) : Prop := XT.PureE (some (.int (1 - cd))) r s u
theorem law (l : Launch) (x : Addr) (cd z : Int32) : Law l yN 1 0 0 0 yB 1 (some .boolean) site (P x cd z) (E cd) [] 0 0 := by
  refine Law.of_walk (plainFor_of_name (by decide +kernel)) (by decide +kernel) (by decide +kernel) (by decide) (fun _ _ h => by rw [h.1]; rfl) (fun _ U U' hal hh h => ⟨h.1, h.2.1.mv hal hh, h.2.2.1, h.2.2.2.1.there hal hh, h.2.2.2.2⟩) (fun r U U' V V' h1 hal h2 h => XT.PureE.mv r U U' V V' h1 hal h2 h) ?_
  intro p e s m args below meth c s₁ X0 hexec hbytes hml hret hlk hnm hown hh0 W hP
  obtain ⟨rfl, hx, hc, s1, hz⟩ := hP
  have c1 : Steps p.tables e below (s₁.setTop (entryFrame m #[.ref x] 1)) (s₁.setTop (mkF m 0 #[.val (.ref x)] [])) := entry rfl
  obtain ⟨T2, X2, q2, st2⟩ := X0.sget hexec hown (wk W (.fieldLink "java/lang/String" 38 "java/lang/String" "COMPACT_STRINGS" "Z")) s1 (fun _ _ h => by rw [hh0]; exact h) (g := (mkF m 0 #[.val (.ref x)] [])) rfl (hb hbytes d0)
  have hh2 := q2.trans hh0
  have c3 : Steps p.tables e below (s₁.setTop (entryFrame m #[.ref x] 1)) (T2.setTop (mkF m 7 #[.val (.ref x)] [.ref x])) := (c1.trans (st2 _ (Steps.refl _))).trans (by
    refine XS.ifNo X2.here hexec rfl (hb hbytes d3) rfl (i0_eq_f hz) ?_
    refine XS.aloadN X2.here hexec rfl (hb hbytes d6) rfl rfl ?_
    exact Steps.refl _)
  obtain ⟨T4, X4, q4, st4⟩ := X2.hget hexec hown (wk W (.fieldLink "java/lang/String" 15 "java/lang/String" "coder" "B")) (hx.mv X2.warmed.alike hh2) (g := (mkF m 7 #[.val (.ref x)] [.ref x])) rfl (rest := []) rfl (hb hbytes d7)
  have c5 : Steps p.tables e below (s₁.setTop (entryFrame m #[.ref x] 1)) (T4.setTop (mkF m 10 #[.val (.ref x)] [.int cd])) := c3.trans (st4 _ (Steps.refl _))
  have c6 : Steps p.tables e below (s₁.setTop (entryFrame m #[.ref x] 1)) (T4.setTop (mkF m 18 #[.val (.ref x)] [.int (1 - cd)])) := by
    rcases hc with rfl | rfl
    · exact c5.trans (by
        refine XS.ifNo X4.here hexec rfl (hb hbytes d10) rfl (i0_ne_f rfl) ?_
        refine iconstV X4.here hexec rfl 1 (hb hbytes d13) (by decide) ?_
        refine XS.goto X4.here hexec rfl (pc0 := 14) rfl (hb hbytes d14) (by decide) rfl ?_
        exact Steps.refl _)
    · exact c5.trans (by
        refine XS.ifYes X4.here hexec rfl (pc0 := 10) rfl (hb hbytes d10) rfl (i0_ne_t (by decide)) (by decide) rfl ?_
        refine iconstV X4.here hexec rfl 0 (hb hbytes d17) (by decide) ?_
        exact Steps.refl _)
  exact ⟨T4, some (.int (1 - cd)), _, _, _, X4, rfl, rfl, rfl, (fun h => by cases h), ⟨rfl, q4.trans hh2⟩, fun fs hl => c6.trans (X4.ireturnOut hexec hret (by rcases hc with rfl | rfl <;> rfl) (Or.inr (Or.inl rfl)) (hb hbytes d18) hl)⟩
end IsL
namespace LChA
def yN : MethodName := ⟨"java/lang/StringLatin1", "charAt", "([BI)C"⟩
abbrev yB : ByteArray := jdk_43_method_2_code
theorem d0 : decode yB 0 = .ok (.iload_n 1, 1) := by decide +kernel
theorem d1 : decode yB 1 = .ok (.aload_n 0, 1) := by decide +kernel
theorem d2 : decode yB 2 = .ok (.arraylength, 1) := by decide +kernel
theorem d3 : decode yB 3 = .ok (.invokestatic 9, 3) := by decide +kernel
theorem d6 : decode yB 6 = .ok (.aload_n 0, 1) := by decide +kernel
theorem d7 : decode yB 7 = .ok (.iload_n 1, 1) := by decide +kernel
theorem d8 : decode yB 8 = .ok (.baload, 1) := by decide +kernel
theorem d9 : decode yB 9 = .ok (.sipush 255, 3) := by decide +kernel
theorem d12 : decode yB 12 = .ok (.iand, 1) := by decide +kernel
theorem d13 : decode yB 13 = .ok (.i2c, 1) := by decide +kernel
theorem d14 : decode yB 14 = .ok (.ireturn, 1) := by decide +kernel
def site : List Cond := [JO.Str_checkIndex.tab] ++ staticW "java/lang/StringLatin1" 9 JO.Str_checkIndex.yN
def tab : Cond := tabOf yN yB 2 (some .char) site
def P (t : Addr) (V : Cell) (i : Nat) (u : Int32) (fm : Value) (args : Array Value) (s : State) : Prop := args = #[.ref t, .int (Int32.ofNat i)] ∧ XT.Arr .byte t V s ∧ V.slots[i]? = some (.int u) ∧ (StaticIs s "jdk/internal/util/Preconditions" "SIOOBE_FORMATTER" "Ljava/util/function/BiFunction;" fm ∧ fm.isRef = true)
def E (u : Int32) (r : Option Value) (s w : State) : Prop := XT.PureE (some (.int (chr8 u))) r s w
theorem law (l : Launch) (t : Addr) (V : Cell) (i : Nat) (u : Int32) (fm : Value) : Law l yN 2 2 2 27 yB 2 (some .char) site (P t V i u fm) (E u) [] 0 0 := by
  refine Law.of_walk (plainFor_of_name (by decide +kernel)) (by decide +kernel) (by decide +kernel) (by decide) (fun _ _ h => by rw [h.1]; rfl) (fun _ U U' hal hh h => ⟨h.1, h.2.1.mv hal hh, h.2.2.1, h.2.2.2.1.there hal hh, h.2.2.2.2⟩) (fun r U U' V V' h1 hal h2 h => XT.PureE.mv r U U' V V' h1 hal h2 h) ?_
  intro p e s m args below meth c s₁ X0 hexec hbytes hml hret hlk hnm hown hh0 W hP
  obtain ⟨rfl, hV, hu, s1, rf⟩ := hP
  have v31 := hV.2.2.2
  have hi : i < V.slots.size := (Array.getElem?_eq_some_iff.mp hu).1
  have c1 : Steps p.tables e below (s₁.setTop (entryFrame m #[.ref t, .int (Int32.ofNat i)] 2)) (s₁.setTop (mkF m 0 #[.val (.ref t), .val (.int (Int32.ofNat i))] [])) := entry rfl
  have c2 : Steps p.tables e below (s₁.setTop (entryFrame m #[.ref t, .int (Int32.ofNat i)] 2)) (s₁.setTop (mkF m 3 #[.val (.ref t), .val (.int (Int32.ofNat i))] [.int (Int32.ofNat V.slots.size), .int (Int32.ofNat i)])) := c1.trans (by
    refine XS.iloadN X0.here hexec rfl (hb hbytes d0) rfl ?_
    refine XS.aloadN X0.here hexec rfl (hb hbytes d1) rfl rfl ?_
    refine X0.alen hexec (hV.mv X0.warmed.alike hh0) rfl rfl (hb hbytes d2) ?_
    exact Steps.refl _)
  obtain ⟨v3, T3, X3, E3, g3⟩ := X0.callS hexec (JO.Str_checkIndex.law l (Int32.ofNat i) (Int32.ofNat V.slots.size) fm) hown (wks W (staticW "java/lang/StringLatin1" 9 JO.Str_checkIndex.yN)) (wk W JO.Str_checkIndex.tab) (W := 0) (Nat.le_of_ble_eq_true rfl) (Nat.le_of_ble_eq_true rfl) (Nat.le_refl _) (Nat.le_refl _) (g := (mkF m 3 #[.val (.ref t), .val (.int (Int32.ofNat i))] [.int (Int32.ofNat V.slots.size), .int (Int32.ofNat i)])) rfl (by rw [hml]; rfl) c2 (argsL := [.int (Int32.ofNat i), .int (Int32.ofNat V.slots.size)]) (rest := []) rfl rfl (by show 2 * 0 + 0 ≤ _; decide) (hb hbytes d3) (⟨rfl, rf, s1.there X0.warmed.alike hh0, Int32.ofNat_not_neg (by omega), lt32 v31 hi⟩)
  obtain ⟨rfl, q3⟩ := E3
  have hh3 := q3.trans hh0
  have c4 : Steps p.tables e below (s₁.setTop (entryFrame m #[.ref t, .int (Int32.ofNat i)] 2)) (T3.setTop (mkF m 14 #[.val (.ref t), .val (.int (Int32.ofNat i))] [.int (chr8 u)])) := Steps.trans g3 (by
    refine XS.aloadN X3.here hexec rfl (hb hbytes d6) rfl rfl ?_
    refine XS.iloadN X3.here hexec rfl (hb hbytes d7) rfl ?_
    refine X3.aget hexec (hV.mv X3.warmed.alike hh3) rfl hu rfl rfl (hb hbytes d8) ?_
    refine sipushV X3.here hexec rfl 255 (hb hbytes d9) (by decide) ?_
    refine XS.iand X3.here hexec rfl (hb hbytes d12) rfl ?_
    refine i2c X3.here hexec rfl (hb hbytes d13) rfl ?_
    exact Steps.refl _)
  exact ⟨T3, some (.int (chr8 u)), _, _, _, X3, rfl, rfl, rfl, (fun h => by cases h), ⟨rfl, hh3⟩, fun fs hl => c4.trans (X3.ireturnOut hexec hret (narrow_c _) (Or.inr (Or.inr (Or.inr (Or.inl rfl)))) (hb hbytes d14) hl)⟩
end LChA
end StrChars
namespace StrChars.Road
open Jvm Sem ClassFile Op Lib Jvm.Stand Jvm.Free Jvm.Free.XT
open Jvm.Lib.Cold (StaticIs)
theorem consq {a : Array Value} {s : State} {c : Jvm.Cond} {L : List Jvm.Cond} (h0 : c.before a s = true) (h : ∀ w ∈ L, w.before a s = true) : ∀ w ∈ c :: L, w.before a s = true := fun w hw => (List.mem_cons.mp hw).elim (fun e => e ▸ h0) (h w)
/-- the words of String.length(), either coding -/
abbrev wordsLen : List Jvm.Cond := [.code Len.yN Len.yB 1 (some .int), .initialized ST, .fieldLink ST 9 ST "value" "[B", .fieldLink ST 38 ST "COMPACT_STRINGS" "Z", .fieldLink ST 15 ST "coder" "B", .code Cdr.yN Cdr.yB 1 (some .byte), .methodLink ST 335 Cdr.yN, .declares Cdr.yN, .selects ST Cdr.yN Cdr.yN, .instanceMethod Cdr.yN]
theorem tabLen_of {a : Array Value} {s : State} (h : ∀ w ∈ wordsLen, w.before a s = true) : Len.tab.before a s = true := by
  have hc : Cdr.tab.before a s = true := unparts (wk h (.code Cdr.yN Cdr.yB 1 (some .byte))) (wks h (.initialized Cdr.yN.cls :: Cdr.site))
  have q := consq hc h
  exact unparts (wk q (.code Len.yN Len.yB 1 (some .int))) (wks q (.initialized Len.yN.cls :: Len.site))
theorem movedLen {Z s : State} {a0 args : Array Value} (hZ : Z.Warmed39 s.vm) (hw : ∀ d ∈ wordsLen, d.before a0 Z = true) : ∀ d ∈ wordsLen, d.before args s = true := fun d hd => by
  have q := hw d hd
  have t : ∀ d ∈ wordsLen, d = .arrayClass .byte ∨ (d.onTables && d.keepsFace) = true := by decide +kernel
  rcases t d hd with rfl | t
  · exact RoadKit.mvA hZ q
  · exact RoadKit.mv hZ q t
/-- the bytes of the chars cs, low before high -/
def wideBytes : List Int32 → List Value
  | [] => []
  | c :: cs => .int (lo8 c) :: .int (hi8 c) :: wideBytes cs
theorem wide_lo (d : Value) : ∀ (cs : List Int32) (j : Nat), j < cs.length → (wideBytes cs).getD (2 * j) d = .int (lo8 (cs.getD j 0))
  | [], j, h => absurd h (Nat.not_lt_zero j)
  | c :: cs, 0, _ => rfl
  | c :: cs, j + 1, h => by
    have q := wide_lo d cs j (by simpa using h)
    rw [show 2 * (j + 1) = 2 * j + 1 + 1 from by omega]
    simpa [wideBytes] using q
theorem wide_hi (d : Value) : ∀ (cs : List Int32) (j : Nat), j < cs.length → (wideBytes cs).getD (2 * j + 1) d = .int (hi8 (cs.getD j 0))
  | [], j, h => absurd h (Nat.not_lt_zero j)
  | c :: cs, 0, _ => rfl
  | c :: cs, j + 1, h => by
    have q := wide_hi d cs j (by simpa using h)
    rw [show 2 * (j + 1) + 1 = 2 * j + 1 + 1 + 1 from by omega]
    simpa [wideBytes] using q
theorem low_at (d : Value) (cs : List Int32) (j : Nat) (h : j < cs.length) : (cs.map fun c => Value.int (lo8 c)).getD j d = .int (lo8 (cs.getD j 0)) := by
  simp [List.getD_eq_getElem?_getD, h]
/-- an array of N2 bytes vs codes the chars cs by the coder cd -/
def CodA (cs : List Int32) (cd N2 : Int32) (vs : List Value) : Prop := (cd = 0 ∧ N2 = Int32.ofNat cs.length ∧ vs = (cs.map fun c => Value.int (lo8 c)) ∧ ∀ c ∈ cs, ¬ 255 < c) ∨ (cd = 1 ∧ N2 = Int32.ofNat (2 * cs.length) ∧ vs = wideBytes cs ∧ ∃ c ∈ cs, 255 < c)
theorem CodA.cod {cs : List Int32} {cd N2 : Int32} {vs : List Value} {V : Cell} (h : CodA cs cd N2 vs) (hn : 2 * cs.length < 2 ^ 31) (hs : V.slots.size = N2.toNatClampNeg) (hv : RoadKit.Has V vs (.int 0)) : Cod cd cs.length (fun j => cs.getD j 0) V := by
  rcases h with ⟨rfl, rfl, rfl, h⟩ | ⟨rfl, rfl, rfl, c, hc, hw⟩
  · rw [n32 (by omega)] at hs
    exact Or.inl ⟨rfl, hs, fun j hj => ⟨by rw [hv j (by omega), low_at _ _ _ hj], by
      have e : cs.getD j 0 = cs[j] := by simp [List.getD_eq_getElem?_getD, hj]
      show ¬ 255 < cs.getD j 0
      rw [e]; exact h _ (List.getElem_mem _)⟩⟩
  · rw [n32 (by omega)] at hs
    obtain ⟨j, hj, rfl⟩ := List.getElem_of_mem hc
    exact Or.inr ⟨rfl, hs, fun j hj => ⟨by rw [hv _ (by omega), wide_lo _ _ _ hj], by rw [hv _ (by omega), wide_hi _ _ _ hj]⟩, j, hj, by
      have e : cs.getD j 0 = cs[j] := by simp [List.getD_eq_getElem?_getD, hj]
      show 255 < cs.getD j 0
      rw [e]; exact hw⟩
/-- an object of exactly java/lang/String, its two fields found: as the laws ask it -/
theorem strObj {Z U : State} {a0 : Array Value} {kI : Nat} (wi : (Jvm.Cond.instantiable ST kI).before a0 Z = true) (al : Z.vm.Alike U.vm) {x : Addr} {v0 c0 : Value} (E : RoadKit.Exa Z U.heap x ST) (V : RoadKit.Fld Z U.heap x ST "value" "[B" v0) (C : RoadKit.Fld Z U.heap x ST "coder" "B" c0) :
    ∃ (D : Cell) (fV fC : Field), Blank ST x D U ∧ Found ST "value" "[B" fV U ∧ Found ST "coder" "B" fC U ∧ D.slots[fV.slot]? = some v0 ∧ D.slots[fC.slot]? = some c0 ∧ RoadKit.slotOf Z ST "value" "[B" = fV.slot ∧ RoadKit.slotOf Z ST "coder" "B" = fC.slot := by
  obtain ⟨D, cfV, kV, iV, fV, hD, gV, stV, knV, obV, asV, slV⟩ := V
  obtain ⟨D', cfC, kC, iC, fC, hD', gC, stC, -, -, asC, slC⟩ := C
  cases hD.symm.trans hD'
  obtain ⟨D2, kD, e1, e2, e3, e4, e5⟩ := E
  cases hD.symm.trans e1
  obtain ⟨c2, k2, i1, i2, i3, -⟩ := Cond.instantiable_spec wi
  cases e2.symm.trans i1
  cases e3.symm.trans i2
  obtain ⟨kU, u1, u2⟩ := al.2.2 _ _ e3
  exact ⟨D, fV, fC, ⟨hD, ⟨knV, fun q hq => by rw [hq] at obV; cases obV⟩, by rw [al.findClass]; exact e2, kU, u1, by rw [u2]; exact i3, by rw [u2]; exact e5 i3⟩, ⟨SBG.found_only al ⟨cfV, kV, iV, gV⟩, stV⟩, ⟨SBG.found_only al ⟨cfC, kC, iC, gC⟩, stC⟩, slV, slC, by simp [RoadKit.slotOf, gV], by simp [RoadKit.slotOf, gC]⟩
theorem sta_is {Z U : State} (al : Z.vm.Alike U.vm) {C n d : String} {v : Value} (S : RoadKit.Sta Z U.heap C n d v) : StaticIs U C n d v := by
  obtain ⟨cfS, iS, kS, fS, st, cS, t1, t2, t3, t4, t5, t6, t7⟩ := S
  exact StaticIs.there (s := { Z with heap := U.heap }) ⟨cfS, iS, kS, fS, st, cS, t1, t2, t3, t4, t5, (fun q => by rw [q] at t6; cases t6), t7⟩ al rfl
/-- **length() OF SUCH A STRING** -/
theorem lenW {p : Program} {l : Launch} {e : Env} {R : Room} {s : State} {args : Array Value} {below : List Frame} {len W : Nat} {Z : State} {a0 : Array Value} {h : Heap} (hZ : Z.Warmed39 s.vm) (hw : ∀ d ∈ wordsLen, d.before a0 Z = true) {kI : Nat} (wi : (Jvm.Cond.instantiable ST kI).before a0 Z = true)
    {x t : Addr} {kb : ClassId} {cs : List Int32} {cd N2 z : Int32} {vs : List Value} (E : RoadKit.Exa Z h x ST) (V : RoadKit.Fld Z h x ST "value" "[B" (.ref t)) (C : RoadKit.Fld Z h x ST "coder" "B" (.int cd)) (K : RoadKit.Arv Z h t kb .byte N2 vs (.int 0)) (hc : CodA cs cd N2 vs) (hb : ∀ c ∈ cs, ¬ c < 0 ∧ ¬ (65535 : Int32) < c)
    (S : RoadKit.Sta Z h ST "COMPACT_STRINGS" "Z" (.int z)) (hz : ¬ z = 0) (l2 : cs.length ≤ 4000) (hfr : 2 ≤ R.frames) (hlo : W + 25 ≤ R.locals) :
    Back l R p e below s args (⟨"java/lang/String", "length", "()I"⟩ : MethodName) len W (fun P a => a = #[.ref x] ∧ P.U.heap = h ∧ P.cells + 0 ≤ R.cells ∧ P.slots + 0 ≤ R.slots)
      (fun P _ v B => ∃ L, (v = some (.int (Int32.ofNat cs.length)) ∧ L = [] ∧ B.U.heap = h) ∧ B.locs = P.locs ++ L ∧ B.cells = P.cells + 0 ∧ B.slots = P.slots + 0) := by
  obtain ⟨A, K1, K2, K3, K4, K5, K6⟩ := K
  have hcod := hc.cod (by omega) K3 K5
  intro m meth c P g ig mk a X hg hsize hdg hW hn hp'
  obtain ⟨rfl, rfl, r1, r2⟩ := hp'
  have al : Z.vm.Alike P.U.vm := hZ.alike.trans X.warmed.alike
  obtain ⟨D, fV, fC, hB, F1, F2, g1, g2, -, -⟩ := strObj wi al E V C
  have hx : Txt x t A cd cs.length (fun j => cs.getD j 0) P.U := ⟨⟨_, hB.2.2.1, D, hB.1, rfl, by cases q : D.vm <;> first | rfl | exact absurd q (hB.2.1.2 _)⟩, Has.of hB F1 g1, Has.of hB F2 g2, ⟨K1.1, State.isArrayOf_alike al K1.2.1, K1.2.2, by rcases hcod with ⟨-, q, -⟩ | ⟨-, q, -⟩ <;> omega⟩, hcod, fun j hj => by
    have e : cs.getD j 0 = cs[j] := by simp [List.getD_eq_getElem?_getD, hj]
    show ¬ cs.getD j 0 < 0 ∧ ¬ 65535 < cs.getD j 0
    rw [e]; exact hb _ (List.getElem_mem _)⟩
  obtain ⟨v, B, X', ⟨⟨hv, hh⟩, hl, hk, hs⟩, st⟩ := Len.pays x t A cd cs.length (fun j => cs.getD j 0) z (tabLen_of (movedLen hZ hw)) hfr hlo m meth c P g ig mk _ X hg hsize hdg hW hn ⟨r1, r2, rfl, hx, sta_is al S, hz⟩
  exact ⟨v, B, X', ⟨[], ⟨hv, rfl, hh⟩, hl, hk, hs⟩, st⟩
end StrChars.Road
namespace StrChars
open Jvm Sem ClassFile Op Lib Jvm.Stand Jvm.Free.XT Jvm.Free.ALB Jvm.Free.JM Jvm.Free
open Jvm.Lib.Cold (StaticIs)
/-- what place i of a byte[]'s cell holds -/
def yv (A : Cell) (i : Nat) : Int32 := match A.slots[i]? with | some (.int x) => x | _ => 0
theorem yv_get {a : Addr} {A : Cell} {U : State} (h : XT.Arr .byte a A U) (ht : Typed .byte A) {i : Nat} (hi : i < A.slots.size) : A.slots[i]? = some (.int (yv A i)) := by
  have e := Array.getElem?_eq_getElem hi
  have f := ht i _ e
  unfold yv; rw [e]
  generalize A.slots[i] = v at f
  cases v <;> simp [fits] at f ⊢
/-- the two arrays are equal, place for place -/
def EqC (A B : Cell) : Prop := A.slots.size = B.slots.size ∧ ∀ i, i < A.slots.size → yv A i = yv B i
/-- a boolean that says whether p -/
def Says01 (q : Prop) (r : Option Value) (s u : State) : Prop := ∃ v : Int32, r = some (.int v) ∧ u.heap = s.heap ∧ ((v = 1 ∧ q) ∨ (v = 0 ∧ ¬ q))
theorem Says01.mv {q : Prop} : ∀ r (U U' V V' : State), U'.heap = U.heap → V.vm.Alike V'.vm → V'.heap = V.heap → Says01 q r U V → Says01 q r U' V' :=
  fun r U U' V V' h1 _ h2 ⟨v, a, b, c⟩ => ⟨v, a, by rw [h1, h2]; exact b, c⟩
namespace LEq
def yN : MethodName := ⟨"java/lang/StringLatin1", "equals", "([B[B)Z"⟩
abbrev yB : ByteArray := jdk_43_method_13_code
theorem d0 : decode yB 0 = .ok (.aload_n 0, 1) := by decide +kernel
theorem d1 : decode yB 1 = .ok (.arraylength, 1) := by decide +kernel
theorem d2 : decode yB 2 = .ok (.aload_n 1, 1) := by decide +kernel
theorem d3 : decode yB 3 = .ok (.arraylength, 1) := by decide +kernel
theorem d4 : decode yB 4 = .ok (.if_icmp (.ne) 30, 3) := by decide +kernel
theorem d7 : decode yB 7 = .ok (.iconst 0, 1) := by decide +kernel
theorem d8 : decode yB 8 = .ok (.istore_n 2, 1) := by decide +kernel
theorem d9 : decode yB 9 = .ok (.iload_n 2, 1) := by decide +kernel
theorem d10 : decode yB 10 = .ok (.aload_n 0, 1) := by decide +kernel
theorem d11 : decode yB 11 = .ok (.arraylength, 1) := by decide +kernel
theorem d12 : decode yB 12 = .ok (.if_icmp (.ge) 20, 3) := by decide +kernel
theorem d15 : decode yB 15 = .ok (.aload_n 0, 1) := by decide +kernel
theorem d16 : decode yB 16 = .ok (.iload_n 2, 1) := by decide +kernel
theorem d17 : decode yB 17 = .ok (.baload, 1) := by decide +kernel
theorem d18 : decode yB 18 = .ok (.aload_n 1, 1) := by decide +kernel
theorem d19 : decode yB 19 = .ok (.iload_n 2, 1) := by decide +kernel
theorem d20 : decode yB 20 = .ok (.baload, 1) := by decide +kernel
theorem d21 : decode yB 21 = .ok (.if_icmp (.eq) 5, 3) := by decide +kernel
theorem d24 : decode yB 24 = .ok (.iconst 0, 1) := by decide +kernel
theorem d25 : decode yB 25 = .ok (.ireturn, 1) := by decide +kernel
theorem d26 : decode yB 26 = .ok (.iinc 2 1, 3) := by decide +kernel
theorem d29 : decode yB 29 = .ok (.goto (-20), 3) := by decide +kernel
theorem d32 : decode yB 32 = .ok (.iconst 1, 1) := by decide +kernel
theorem d33 : decode yB 33 = .ok (.ireturn, 1) := by decide +kernel
theorem d34 : decode yB 34 = .ok (.iconst 0, 1) := by decide +kernel
theorem d35 : decode yB 35 = .ok (.ireturn, 1) := by decide +kernel
def site : List Cond := []
def tab : Cond := tabOf yN yB 3 (some .boolean) site
def P (a : Addr) (A : Cell) (b : Addr) (B : Cell) (args : Array Value) (s : State) : Prop := args = #[.ref a, .ref b] ∧ XT.Arr .byte a A s ∧ Typed .byte A ∧ XT.Arr .byte b B s ∧ Typed .byte B
/-- whether two byte[] are equal, place for place -/
theorem law (l : Launch) (a : Addr) (A : Cell) (b : Addr) (B : Cell) : Law l yN 2 2 0 0 yB 3 (some .boolean) site (P a A b B) (Says01 (EqC A B)) [] 0 0 := by
  refine Law.of_walk (plainFor_of_name (by decide +kernel)) (by decide +kernel) (by decide +kernel) (by decide) (fun _ _ h => by rw [h.1]; rfl) (fun _ U U' hal hh h => ⟨h.1, h.2.1.mv hal hh, h.2.2.1, h.2.2.2.1.mv hal hh, h.2.2.2.2⟩) (fun r U U' V V' h1 hal h2 h => Says01.mv r U U' V V' h1 hal h2 h) ?_
  intro p e s m args below meth c s₁ X0 hexec hbytes hml hret hlk hnm hown hh0 W hP
  obtain ⟨rfl, hA, tA, hB, tB⟩ := hP
  have a31 := hA.2.2.2
  have b31 := hB.2.2.2
  have hA0 := hA.mv X0.warmed.alike hh0
  have hB0 := hB.mv X0.warmed.alike hh0
  have c1 : Steps p.tables e below (s₁.setTop (entryFrame m #[.ref a, .ref b] 3)) (s₁.setTop (mkF m 0 #[.val (.ref a), .val (.ref b), .unset] [])) := entry rfl
  have c2 : Steps p.tables e below (s₁.setTop (entryFrame m #[.ref a, .ref b] 3)) (s₁.setTop (mkF m 4 #[.val (.ref a), .val (.ref b), .unset] [.int (Int32.ofNat B.slots.size), .int (Int32.ofNat A.slots.size)])) := c1.trans (by
    refine XS.aloadN X0.here hexec rfl (hb hbytes d0) rfl rfl ?_
    refine X0.alen hexec hA0 rfl rfl (hb hbytes d1) ?_
    refine XS.aloadN X0.here hexec rfl (hb hbytes d2) rfl rfl ?_
    refine X0.alen hexec hB0 rfl rfl (hb hbytes d3) ?_
    exact Steps.refl _)
  by_cases hs : A.slots.size = B.slots.size
  · have c3 : Steps p.tables e below (s₁.setTop (entryFrame m #[.ref a, .ref b] 3)) (s₁.setTop (mkF m 9 #[.val (.ref a), .val (.ref b), .val (.int 0)] [])) := c2.trans (by
      refine XS.icmpNo X0.here hexec rfl (hb hbytes d4) rfl (ii_ne_f (by rw [hs])) ?_
      refine iconstV X0.here hexec rfl 0 (hb hbytes d7) (by decide) ?_
      refine XS.istoreN X0.here hexec rfl (hb hbytes d8) rfl rfl ?_
      exact Steps.refl _)
    have loop : ∀ (r i : Nat), i + r = A.slots.size → (∀ j, j < i → yv A j = yv B j) → Steps p.tables e below (s₁.setTop (entryFrame m #[.ref a, .ref b] 3)) (s₁.setTop (mkF m 9 #[.val (.ref a), .val (.ref b), .val (.int (Int32.ofNat i))] [])) → ∃ (pc : Nat) (Ls : Array Slot) (v : Int32), (pc = 25 ∨ pc = 33) ∧ ((v = 1 ∧ EqC A B) ∨ (v = 0 ∧ ¬ EqC A B)) ∧ Steps p.tables e below (s₁.setTop (entryFrame m #[.ref a, .ref b] 3)) (s₁.setTop (mkF m pc Ls [.int v])) := by
      intro r
      induction r with
      | zero =>
        intro i hi he cl
        exact ⟨33, _, 1, Or.inr rfl, Or.inl ⟨rfl, hs, fun j hj => he j (by omega)⟩, cl.trans (by
          refine XS.iloadN X0.here hexec rfl (hb hbytes d9) rfl ?_
          refine XS.aloadN X0.here hexec rfl (hb hbytes d10) rfl rfl ?_
          refine X0.alen hexec hA0 rfl rfl (hb hbytes d11) ?_
          refine XS.icmpYes X0.here hexec rfl (pc0 := 12) rfl (hb hbytes d12) rfl (ii_ge_t (nlt32 (by omega) (by omega))) (by decide) rfl ?_
          refine iconstV X0.here hexec rfl 1 (hb hbytes d32) (by decide) ?_
          exact Steps.refl _)⟩
      | succ r ih =>
        intro i hi he cl
        have c4 : Steps p.tables e below (s₁.setTop (entryFrame m #[.ref a, .ref b] 3)) (s₁.setTop (mkF m 21 #[.val (.ref a), .val (.ref b), .val (.int (Int32.ofNat i))] [.int (yv B i), .int (yv A i)])) := cl.trans (by
          refine XS.iloadN X0.here hexec rfl (hb hbytes d9) rfl ?_
          refine XS.aloadN X0.here hexec rfl (hb hbytes d10) rfl rfl ?_
          refine X0.alen hexec hA0 rfl rfl (hb hbytes d11) ?_
          refine XS.icmpNo X0.here hexec rfl (hb hbytes d12) rfl (ii_ge_f (lt32 (by omega) (by omega))) ?_
          refine XS.aloadN X0.here hexec rfl (hb hbytes d15) rfl rfl ?_
          refine XS.iloadN X0.here hexec rfl (hb hbytes d16) rfl ?_
          refine X0.aget hexec hA0 rfl (yv_get hA tA (i := i) (by omega)) rfl rfl (hb hbytes d17) ?_
          refine XS.aloadN X0.here hexec rfl (hb hbytes d18) rfl rfl ?_
          refine XS.iloadN X0.here hexec rfl (hb hbytes d19) rfl ?_
          refine X0.aget hexec hB0 rfl (yv_get hB tB (i := i) (by omega)) rfl rfl (hb hbytes d20) ?_
          exact Steps.refl _)
        by_cases hv : yv A i = yv B i
        · have c5 : Steps p.tables e below (s₁.setTop (entryFrame m #[.ref a, .ref b] 3)) (s₁.setTop (mkF m 9 #[.val (.ref a), .val (.ref b), .val (.int (Int32.ofNat i + 1))] [])) := c4.trans (by
            refine XS.icmpYes X0.here hexec rfl (pc0 := 21) rfl (hb hbytes d21) rfl (ii_eq_t hv) (by decide) rfl ?_
            refine iincV X0.here hexec rfl 1 (hb hbytes d26) (by decide) rfl rfl ?_
            refine XS.goto X0.here hexec rfl (pc0 := 29) rfl (hb hbytes d29) (by decide) rfl ?_
            exact Steps.refl _)
          rw [succ32] at c5
          exact ih (i + 1) (by omega) (fun j hj => by
            by_cases e : j = i
            · rw [e]; exact hv
            · exact he j (by omega)) c5
        · exact ⟨25, _, 0, Or.inl rfl, Or.inr ⟨rfl, fun q => hv (q.2 i (by omega))⟩, c4.trans (by
            refine XS.icmpNo X0.here hexec rfl (hb hbytes d21) rfl (ii_eq_f hv) ?_
            refine iconstV X0.here hexec rfl 0 (hb hbytes d24) (by decide) ?_
            exact Steps.refl _)⟩
    obtain ⟨pc, Ls, v, hpc, hv, cz⟩ := loop A.slots.size 0 (by omega) (fun j hj => absurd hj (Nat.not_lt_zero j)) c3
    have nv : narrow .boolean (.int v) = .int v := by rcases hv with ⟨rfl, -⟩ | ⟨rfl, -⟩ <;> rfl
    rcases hpc with rfl | rfl
    · exact ⟨s₁, some (.int v), _, _, _, X0, rfl, rfl, rfl, (fun h => by cases h), ⟨v, rfl, hh0, hv⟩, fun fs hl => cz.trans (X0.ireturnOut hexec hret nv (Or.inr (Or.inl rfl)) (hb hbytes d25) hl)⟩
    · exact ⟨s₁, some (.int v), _, _, _, X0, rfl, rfl, rfl, (fun h => by cases h), ⟨v, rfl, hh0, hv⟩, fun fs hl => cz.trans (X0.ireturnOut hexec hret nv (Or.inr (Or.inl rfl)) (hb hbytes d33) hl)⟩
  · have c3 : Steps p.tables e below (s₁.setTop (entryFrame m #[.ref a, .ref b] 3)) (s₁.setTop (mkF m 35 #[.val (.ref a), .val (.ref b), .unset] [.int 0])) := c2.trans (by
      refine XS.icmpYes X0.here hexec rfl (pc0 := 4) rfl (hb hbytes d4) rfl (ii_ne_t (ne32 a31 b31 hs)) (by decide) rfl ?_
      refine iconstV X0.here hexec rfl 0 (hb hbytes d34) (by decide) ?_
      exact Steps.refl _)
    exact ⟨s₁, some (.int 0), _, _, _, X0, rfl, rfl, rfl, (fun h => by cases h), ⟨0, rfl, hh0, Or.inr ⟨rfl, fun q => hs q.1⟩⟩, fun fs hl => c3.trans (X0.ireturnOut hexec hret rfl (Or.inr (Or.inl rfl)) (hb hbytes d35) hl)⟩
end LEq
theorem Cod.ty {cd : Int32} {n : Nat} {f : Nat → Int32} {V : Cell} (h : Cod cd n f V) : Typed .byte V := fun i v hv => by
  have hi : i < V.slots.size := (Array.getElem?_eq_some_iff.mp hv).1
  rcases h with ⟨-, k1, k2⟩ | ⟨-, k1, k2, -⟩
  · rw [(k2 i (by omega)).1] at hv; cases hv; exact fits_lo8 _
  · rcases Nat.mod_two_eq_zero_or_one i with e | e
    · obtain ⟨j, rfl⟩ : ∃ j, i = 2 * j := ⟨i / 2, by omega⟩
      rw [(k2 j (by omega)).1] at hv; cases hv; exact fits_lo8 _
    · obtain ⟨j, rfl⟩ : ∃ j, i = 2 * j + 1 := ⟨i / 2, by omega⟩
      rw [(k2 j (by omega)).2] at hv; cases hv; exact fits_lo8 _
/-- the same text -/
def SameT (n : Nat) (f : Nat → Int32) (k : Nat) (g : Nat → Int32) : Prop := n = k ∧ ∀ j, j < n → f j = g j
theorem lo8_inj {x y : Int32} (h0 : ¬ x < 0) (h1 : ¬ 255 < x) (k0 : ¬ y < 0) (k1 : ¬ 255 < y) (h : lo8 x = lo8 y) : x = y := by
  rw [← lo8_mask h0 h1, ← lo8_mask k0 k1, h]
/-- arrays coded by one coder are equal just where the texts are -/
theorem Cod.eqv {cd : Int32} {n k : Nat} {f g : Nat → Int32} {V V' : Cell} (h : Cod cd n f V) (h' : Cod cd k g V') (hf : ∀ j, j < n → ¬ f j < 0 ∧ ¬ 65535 < f j) (hg : ∀ j, j < k → ¬ g j < 0 ∧ ¬ 65535 < g j) : EqC V V' ↔ SameT n f k g := by
  have yvv : ∀ {W : Cell} {i : Nat} {x : Int32}, W.slots[i]? = some (.int x) → yv W i = x := fun q => by unfold yv; rw [q]
  rcases h with ⟨rfl, k1, k2⟩ | ⟨rfl, k1, k2, -⟩
  · rcases h' with ⟨-, m1, m2⟩ | ⟨e, -⟩
    · constructor
      · rintro ⟨e1, e2⟩
        refine ⟨by omega, fun j hj => ?_⟩
        have q := e2 j (by omega)
        rw [yvv (k2 j hj).1, yvv (m2 j (by omega)).1] at q
        exact lo8_inj (hf j hj).1 (k2 j hj).2 (hg j (by omega)).1 (m2 j (by omega)).2 q
      · rintro ⟨rfl, e2⟩
        refine ⟨by omega, fun j hj => ?_⟩
        rw [yvv (k2 j (by omega)).1, yvv (m2 j (by omega)).1, e2 j (by omega)]
    · exact absurd e (by decide)
  · rcases h' with ⟨e, -⟩ | ⟨-, m1, m2, -⟩
    · exact absurd e (by decide)
    · constructor
      · rintro ⟨e1, e2⟩
        refine ⟨by omega, fun j hj => ?_⟩
        have q1 := e2 (2 * j) (by omega)
        have q2 := e2 (2 * j + 1) (by omega)
        rw [yvv (k2 j hj).1, yvv (m2 j (by omega)).1] at q1
        rw [yvv (k2 j hj).2, yvv (m2 j (by omega)).2] at q2
        rw [← pair_says (hf j hj).1 (hf j hj).2, ← pair_says (hg j (by omega)).1 (hg j (by omega)).2, q1, q2]
      · rintro ⟨rfl, e2⟩
        refine ⟨by omega, fun i hi => ?_⟩
        rcases Nat.mod_two_eq_zero_or_one i with e | e
        · obtain ⟨j, rfl⟩ : ∃ j, i = 2 * j := ⟨i / 2, by omega⟩
          rw [yvv (k2 j (by omega)).1, yvv (m2 j (by omega)).1, e2 j (by omega)]
        · obtain ⟨j, rfl⟩ : ∃ j, i = 2 * j + 1 := ⟨i / 2, by omega⟩
          rw [yvv (k2 j (by omega)).2, yvv (m2 j (by omega)).2, e2 j (by omega)]
/-- two codings differ: so do the texts -/
theorem Cod.dif {cd cd' : Int32} {n k : Nat} {f g : Nat → Int32} {V V' : Cell} (h : Cod cd n f V) (h' : Cod cd' k g V') (hne : ¬ cd = cd') : ¬ SameT n f k g := by
  rintro ⟨rfl, e⟩
  rcases h with ⟨rfl, -, k2⟩ | ⟨rfl, -, -, j, hj, hw⟩
  · rcases h' with ⟨rfl, -⟩ | ⟨-, -, -, j, hj, hw⟩
    · exact hne rfl
    · exact (k2 j hj).2 (by rw [e j hj]; exact hw)
  · rcases h' with ⟨-, -, m2⟩ | ⟨rfl, -⟩
    · exact (m2 j hj).2 (by rw [← e j hj]; exact hw)
    · exact hne rfl
/-- an object of exactly C is an instance of C -/
theorem cinst {p : Program} {l : Launch} {e : Env} {R : Room} {s : State} {m : MethodId} {args : Array Value} {below : List Frame} {meth : Method} {c : Code} {T : State} {locs : List Loc} {cells slots : Nat} (X : Stand p l e R s m args below meth c T locs cells slots) (hexec : p.tables.exec = Jvm.exec) {own C : String} {index : Nat} (hown : s.vm.findClass own = some m.cls) (hlink : (Cond.classLink own index C).before args s = true) {a : Addr} (hE : Exact C a T)
    {g : JFrame} (hg : g.method = m) {rest : List Value} (hstack : g.stack = .ref a :: rest) (hdg : decode c.code g.pc = .ok (.instanceof index, 3)) :
    ∃ T', Stand p l e R s m args below meth c T' locs cells slots ∧ T'.heap = T.heap ∧ ∀ target, Steps p.tables e below (T'.setTop { g with pc := g.pc + 3, stack := .int 1 :: rest }) target → Steps p.tables e below (T.setTop g) target := by
  obtain ⟨cB, h1, D, h2, h3, h4⟩ := hE
  have h1' : s.vm.findClass C = some cB := by rw [← X.warmed.alike.findClass]; exact h1
  obtain ⟨vm', X', st⟩ := X.instanceofYes hexec hown hlink h2 h4 h1' (by rw [h3]; exact Jvm.Free.SB.assignable_self _ _) hg hstack hdg
  exact ⟨_, X', rfl, st⟩
theorem cself {p : Program} {l : Launch} {e : Env} {R : Room} {s : State} {m : MethodId} {args : Array Value} {below : List Frame} {meth : Method} {c : Code} {T : State} {locs : List Loc} {cells slots : Nat} (X : Stand p l e R s m args below meth c T locs cells slots) (hexec : p.tables.exec = Jvm.exec) {own C : String} {index : Nat} (hown : s.vm.findClass own = some m.cls) (hlink : (Cond.classLink own index C).before args s = true) {a : Addr} (hE : Exact C a T)
    {g : JFrame} (hg : g.method = m) {rest : List Value} (hstack : g.stack = .ref a :: rest) (hdg : decode c.code g.pc = .ok (.checkcast index, 3)) :
    ∃ T', Stand p l e R s m args below meth c T' locs cells slots ∧ T'.heap = T.heap ∧ ∀ target, Steps p.tables e below (T'.setTop { g with pc := g.pc + 3, stack := .ref a :: rest }) target → Steps p.tables e below (T.setTop g) target := by
  obtain ⟨cB, h1, D, h2, h3, h4⟩ := hE
  have h1' : s.vm.findClass C = some cB := by rw [← X.warmed.alike.findClass]; exact h1
  obtain ⟨vm', X', st⟩ := X.checkcastYes hexec hown hlink h2 h4 h1' (by rw [h3]; exact Jvm.Free.SB.assignable_self _ _) hg hstack hdg
  exact ⟨_, X', rfl, fun t h => st t (by rw [← hstack] at h; exact h)⟩
namespace SEq
def yN : MethodName := ⟨"java/lang/String", "equals", "(Ljava/lang/Object;)Z"⟩
abbrev yB : ByteArray := jdk_42_method_66_code
theorem d0 : decode yB 0 = .ok (.aload_n 0, 1) := by decide +kernel
theorem d1 : decode yB 1 = .ok (.aload_n 1, 1) := by decide +kernel
theorem d2 : decode yB 2 = .ok (.if_acmp (.ne) 5, 3) := by decide +kernel
theorem d5 : decode yB 5 = .ok (.iconst 1, 1) := by decide +kernel
theorem d6 : decode yB 6 = .ok (.ireturn, 1) := by decide +kernel
theorem d7 : decode yB 7 = .ok (.aload_n 1, 1) := by decide +kernel
theorem d8 : decode yB 8 = .ok (.instanceof 10, 3) := by decide +kernel
theorem d11 : decode yB 11 = .ok (.ifCond (.eq) 43, 3) := by decide +kernel
theorem d14 : decode yB 14 = .ok (.aload_n 1, 1) := by decide +kernel
theorem d15 : decode yB 15 = .ok (.checkcast 10, 3) := by decide +kernel
theorem d18 : decode yB 18 = .ok (.astore_n 2, 1) := by decide +kernel
theorem d19 : decode yB 19 = .ok (.getstatic 38, 3) := by decide +kernel
theorem d22 : decode yB 22 = .ok (.ifCond (.eq) 14, 3) := by decide +kernel
theorem d25 : decode yB 25 = .ok (.aload_n 0, 1) := by decide +kernel
theorem d26 : decode yB 26 = .ok (.getfield 15, 3) := by decide +kernel
theorem d29 : decode yB 29 = .ok (.aload_n 2, 1) := by decide +kernel
theorem d30 : decode yB 30 = .ok (.getfield 15, 3) := by decide +kernel
theorem d33 : decode yB 33 = .ok (.if_icmp (.ne) 21, 3) := by decide +kernel
theorem d36 : decode yB 36 = .ok (.aload_n 0, 1) := by decide +kernel
theorem d37 : decode yB 37 = .ok (.getfield 9, 3) := by decide +kernel
theorem d40 : decode yB 40 = .ok (.aload_n 2, 1) := by decide +kernel
theorem d41 : decode yB 41 = .ok (.getfield 9, 3) := by decide +kernel
theorem d44 : decode yB 44 = .ok (.invokestatic 541, 3) := by decide +kernel
theorem d47 : decode yB 47 = .ok (.ifCond (.eq) 7, 3) := by decide +kernel
theorem d50 : decode yB 50 = .ok (.iconst 1, 1) := by decide +kernel
theorem d51 : decode yB 51 = .ok (.goto 4, 3) := by decide +kernel
theorem d54 : decode yB 54 = .ok (.iconst 0, 1) := by decide +kernel
theorem d55 : decode yB 55 = .ok (.ireturn, 1) := by decide +kernel
def site : List Cond := [.classLink "java/lang/String" 10 "java/lang/String", .fieldLink "java/lang/String" 38 "java/lang/String" "COMPACT_STRINGS" "Z", .fieldLink "java/lang/String" 15 "java/lang/String" "coder" "B", .fieldLink "java/lang/String" 9 "java/lang/String" "value" "[B", LEq.tab] ++ staticW "java/lang/String" 541 LEq.yN
def tab : Cond := tabOf yN yB 3 (some .boolean) site
def P (x t : Addr) (V : Cell) (cd : Int32) (n : Nat) (f : Nat → Int32) (y t' : Addr) (V' : Cell) (cd' : Int32) (k : Nat) (g : Nat → Int32) (z : Int32) (args : Array Value) (s : State) : Prop := args = #[.ref x, .ref y] ∧ Txt x t V cd n f s ∧ Txt y t' V' cd' k g s ∧ StaticIs s "java/lang/String" "COMPACT_STRINGS" "Z" (.int z) ∧ ¬ z = 0
/-- equals(Object) of two Strings: whether the texts are the same -/
theorem law (l : Launch) (x t : Addr) (V : Cell) (cd : Int32) (n : Nat) (f : Nat → Int32) (y t' : Addr) (V' : Cell) (cd' : Int32) (k : Nat) (g : Nat → Int32) (z : Int32) : Law l yN 2 1 1 14 yB 3 (some .boolean) site (P x t V cd n f y t' V' cd' k g z) (Says01 (SameT n f k g)) [] 0 0 := by
  refine Law.of_walk (plainFor_of_name (by decide +kernel)) (by decide +kernel) (by decide +kernel) (by decide) (fun _ _ h => by rw [h.1]; rfl) (fun _ U U' hal hh h => ⟨h.1, h.2.1.mv hal hh, h.2.2.1.mv hal hh, h.2.2.2.1.there hal hh, h.2.2.2.2⟩) (fun r U U' V V' h1 hal h2 h => Says01.mv r U U' V V' h1 hal h2 h) ?_
  intro p e s m args below meth c s₁ X0 hexec hbytes hml hret hlk hnm hown hh0 W hP
  obtain ⟨rfl, hx, hy, s1, hz⟩ := hP
  have c1 : Steps p.tables e below (s₁.setTop (entryFrame m #[.ref x, .ref y] 3)) (s₁.setTop (mkF m 2 #[.val (.ref x), .val (.ref y), .unset] [.ref y, .ref x])) := Steps.trans (entry rfl) (by
    show Steps p.tables e below (s₁.setTop (mkF m 0 #[.val (.ref x), .val (.ref y), .unset] [])) _
    refine XS.aloadN X0.here hexec rfl (hb hbytes d0) rfl rfl ?_
    refine XS.aloadN X0.here hexec rfl (hb hbytes d1) rfl rfl ?_
    exact Steps.refl _)
  by_cases hxy : x = y
  · have c2 : Steps p.tables e below (s₁.setTop (entryFrame m #[.ref x, .ref y] 3)) (s₁.setTop (mkF m 6 #[.val (.ref x), .val (.ref y), .unset] [.int 1])) := c1.trans (by
      refine acmpNo X0.here hexec rfl (hb hbytes d2) rfl rfl rfl (by simp [acmp, hxy]) ?_
      refine iconstV X0.here hexec rfl 1 (hb hbytes d5) (by decide) ?_
      exact Steps.refl _)
    subst hxy
    have ec : cd = cd' := by
      obtain ⟨D, fd, a1, a2, a3⟩ := hx.2.2.1
      obtain ⟨D', fd', b1, b2, b3⟩ := hy.2.2.1
      cases a1.symm.trans b1
      obtain ⟨q1, q2, q3, q4⟩ := a2.1
      obtain ⟨r1, r2, r3, r4⟩ := b2.1
      cases q4.symm.trans r4
      cases a3.symm.trans b3; rfl
    have et : t = t' := by
      obtain ⟨D, fd, a1, a2, a3⟩ := hx.2.1
      obtain ⟨D', fd', b1, b2, b3⟩ := hy.2.1
      cases a1.symm.trans b1
      obtain ⟨q1, q2, q3, q4⟩ := a2.1
      obtain ⟨r1, r2, r3, r4⟩ := b2.1
      cases q4.symm.trans r4
      cases a3.symm.trans b3; rfl
    subst ec et
    have ev : V = V' := by cases hx.2.2.2.1.1.symm.trans hy.2.2.2.1.1; rfl
    subst ev
    have hs : SameT n f k g := (Cod.eqv hx.2.2.2.2.1 hy.2.2.2.2.1 hx.2.2.2.2.2 hy.2.2.2.2.2).mp ⟨rfl, fun _ _ => rfl⟩
    exact ⟨s₁, some (.int 1), _, _, _, X0, rfl, rfl, rfl, (fun h => by cases h), ⟨1, rfl, hh0, Or.inl ⟨rfl, hs⟩⟩, fun fs hl => c2.trans (X0.ireturnOut hexec hret rfl (Or.inr (Or.inl rfl)) (hb hbytes d6) hl)⟩
  · have c2 : Steps p.tables e below (s₁.setTop (entryFrame m #[.ref x, .ref y] 3)) (s₁.setTop (mkF m 8 #[.val (.ref x), .val (.ref y), .unset] [.ref y])) := c1.trans (by
      refine acmpYes X0.here hexec rfl (pc0 := 2) rfl (hb hbytes d2) rfl rfl rfl (by simp [acmp, hxy]) (by decide) rfl ?_
      refine XS.aloadN X0.here hexec rfl (hb hbytes d7) rfl rfl ?_
      exact Steps.refl _)
    obtain ⟨T3, X3, q3, st3⟩ := cinst X0 hexec hown (wk W (.classLink "java/lang/String" 10 "java/lang/String")) (hy.mv X0.warmed.alike hh0).1 (g := (mkF m 8 #[.val (.ref x), .val (.ref y), .unset] [.ref y])) rfl (rest := []) rfl (hb hbytes d8)
    have hh3 := q3.trans hh0
    have c4 : Steps p.tables e below (s₁.setTop (entryFrame m #[.ref x, .ref y] 3)) (T3.setTop (mkF m 15 #[.val (.ref x), .val (.ref y), .unset] [.ref y])) := (c2.trans (st3 _ (Steps.refl _))).trans (by
      refine XS.ifNo X3.here hexec rfl (hb hbytes d11) rfl (i0_eq_f (by decide)) ?_
      refine XS.aloadN X3.here hexec rfl (hb hbytes d14) rfl rfl ?_
      exact Steps.refl _)
    obtain ⟨T5, X5, q5, st5⟩ := cself X3 hexec hown (wk W (.classLink "java/lang/String" 10 "java/lang/String")) (hy.mv X3.warmed.alike hh3).1 (g := (mkF m 15 #[.val (.ref x), .val (.ref y), .unset] [.ref y])) rfl (rest := []) rfl (hb hbytes d15)
    have hh5 := q5.trans hh3
    have c6 : Steps p.tables e below (s₁.setTop (entryFrame m #[.ref x, .ref y] 3)) (T5.setTop (mkF m 19 #[.val (.ref x), .val (.ref y), .val (.ref y)] [])) := (c4.trans (st5 _ (Steps.refl _))).trans (by
      refine XS.astoreN X5.here hexec rfl (hb hbytes d18) rfl rfl rfl ?_
      exact Steps.refl _)
    obtain ⟨T7, X7, q7, st7⟩ := X5.sget hexec hown (wk W (.fieldLink "java/lang/String" 38 "java/lang/String" "COMPACT_STRINGS" "Z")) s1 (fun _ _ h => by rw [hh5]; exact h) (g := (mkF m 19 #[.val (.ref x), .val (.ref y), .val (.ref y)] [])) rfl (hb hbytes d19)
    have hh7 := q7.trans hh5
    have c8 : Steps p.tables e below (s₁.setTop (entryFrame m #[.ref x, .ref y] 3)) (T7.setTop (mkF m 26 #[.val (.ref x), .val (.ref y), .val (.ref y)] [.ref x])) := (c6.trans (st7 _ (Steps.refl _))).trans (by
      refine XS.ifNo X7.here hexec rfl (hb hbytes d22) rfl (i0_eq_f hz) ?_
      refine XS.aloadN X7.here hexec rfl (hb hbytes d25) rfl rfl ?_
      exact Steps.refl _)
    obtain ⟨T9, X9, q9, st9⟩ := X7.hget hexec hown (wk W (.fieldLink "java/lang/String" 15 "java/lang/String" "coder" "B")) (hx.mv X7.warmed.alike hh7).2.2.1 (g := (mkF m 26 #[.val (.ref x), .val (.ref y), .val (.ref y)] [.ref x])) rfl (rest := []) rfl (hb hbytes d26)
    have hh9 := q9.trans hh7
    have c10 : Steps p.tables e below (s₁.setTop (entryFrame m #[.ref x, .ref y] 3)) (T9.setTop (mkF m 30 #[.val (.ref x), .val (.ref y), .val (.ref y)] [.ref y, .int cd])) := (c8.trans (st9 _ (Steps.refl _))).trans (by
      refine XS.aloadN X9.here hexec rfl (hb hbytes d29) rfl rfl ?_
      exact Steps.refl _)
    obtain ⟨T11, X11, q11, st11⟩ := X9.hget hexec hown (wk W (.fieldLink "java/lang/String" 15 "java/lang/String" "coder" "B")) (hy.mv X9.warmed.alike hh9).2.2.1 (g := (mkF m 30 #[.val (.ref x), .val (.ref y), .val (.ref y)] [.ref y, .int cd])) rfl (rest := [.int cd]) rfl (hb hbytes d30)
    have hh11 := q11.trans hh9
    have c12 : Steps p.tables e below (s₁.setTop (entryFrame m #[.ref x, .ref y] 3)) (T11.setTop (mkF m 33 #[.val (.ref x), .val (.ref y), .val (.ref y)] [.int cd', .int cd])) := c10.trans (st11 _ (Steps.refl _))
    by_cases hcd : cd = cd'
    · subst hcd
      have c13 : Steps p.tables e below (s₁.setTop (entryFrame m #[.ref x, .ref y] 3)) (T11.setTop (mkF m 37 #[.val (.ref x), .val (.ref y), .val (.ref y)] [.ref x])) := c12.trans (by
        refine XS.icmpNo X11.here hexec rfl (hb hbytes d33) rfl (ii_ne_f rfl) ?_
        refine XS.aloadN X11.here hexec rfl (hb hbytes d36) rfl rfl ?_
        exact Steps.refl _)
      obtain ⟨T14, X14, q14, st14⟩ := X11.hget hexec hown (wk W (.fieldLink "java/lang/String" 9 "java/lang/String" "value" "[B")) (hx.mv X11.warmed.alike hh11).2.1 (g := (mkF m 37 #[.val (.ref x), .val (.ref y), .val (.ref y)] [.ref x])) rfl (rest := []) rfl (hb hbytes d37)
      have hh14 := q14.trans hh11
      have c15 : Steps p.tables e below (s₁.setTop (entryFrame m #[.ref x, .ref y] 3)) (T14.setTop (mkF m 41 #[.val (.ref x), .val (.ref y), .val (.ref y)] [.ref y, .ref t])) := (c13.trans (st14 _ (Steps.refl _))).trans (by
        refine XS.aloadN X14.here hexec rfl (hb hbytes d40) rfl rfl ?_
        exact Steps.refl _)
      obtain ⟨T16, X16, q16, st16⟩ := X14.hget hexec hown (wk W (.fieldLink "java/lang/String" 9 "java/lang/String" "value" "[B")) (hy.mv X14.warmed.alike hh14).2.1 (g := (mkF m 41 #[.val (.ref x), .val (.ref y), .val (.ref y)] [.ref y, .ref t])) rfl (rest := [.ref t]) rfl (hb hbytes d41)
      have hh16 := q16.trans hh14
      have c17 : Steps p.tables e below (s₁.setTop (entryFrame m #[.ref x, .ref y] 3)) (T16.setTop (mkF m 44 #[.val (.ref x), .val (.ref y), .val (.ref y)] [.ref t', .ref t])) := c15.trans (st16 _ (Steps.refl _))
      obtain ⟨v18, T18, X18, E18, g18⟩ := X16.callS hexec (LEq.law l t V t' V') hown (wks W (staticW "java/lang/String" 541 LEq.yN)) (wk W LEq.tab) (W := 0) (Nat.le_of_ble_eq_true rfl) (Nat.le_of_ble_eq_true rfl) (Nat.le_refl _) (Nat.le_refl _) (g := (mkF m 44 #[.val (.ref x), .val (.ref y), .val (.ref y)] [.ref t', .ref t])) rfl (by rw [hml]; rfl) c17 (argsL := [.ref t, .ref t']) (rest := []) rfl rfl (by show 2 * 0 + 0 ≤ _; decide) (hb hbytes d44) (⟨rfl, hx.2.2.2.1.mv X16.warmed.alike hh16, hx.2.2.2.2.1.ty, hy.2.2.2.1.mv X16.warmed.alike hh16, hy.2.2.2.2.1.ty⟩)
      obtain ⟨v, rfl, q18, hv⟩ := E18
      have iff := Cod.eqv hx.2.2.2.2.1 hy.2.2.2.2.1 hx.2.2.2.2.2 hy.2.2.2.2.2
      rcases hv with ⟨rfl, he⟩ | ⟨rfl, he⟩
      · have c19 : Steps p.tables e below (s₁.setTop (entryFrame m #[.ref x, .ref y] 3)) (T18.setTop (mkF m 55 #[.val (.ref x), .val (.ref y), .val (.ref y)] [.int 1])) := Steps.trans g18 (by
          refine XS.ifNo X18.here hexec rfl (hb hbytes d47) rfl (i0_eq_f (by decide)) ?_
          refine iconstV X18.here hexec rfl 1 (hb hbytes d50) (by decide) ?_
          refine XS.goto X18.here hexec rfl (pc0 := 51) rfl (hb hbytes d51) (by decide) rfl ?_
          exact Steps.refl _)
        exact ⟨T18, some (.int 1), _, _, _, X18, rfl, rfl, rfl, (fun h => by cases h), ⟨1, rfl, q18.trans hh16, Or.inl ⟨rfl, iff.mp he⟩⟩, fun fs hl => c19.trans (X18.ireturnOut hexec hret rfl (Or.inr (Or.inl rfl)) (hb hbytes d55) hl)⟩
      · have c19 : Steps p.tables e below (s₁.setTop (entryFrame m #[.ref x, .ref y] 3)) (T18.setTop (mkF m 55 #[.val (.ref x), .val (.ref y), .val (.ref y)] [.int 0])) := Steps.trans g18 (by
          refine XS.ifYes X18.here hexec rfl (pc0 := 47) rfl (hb hbytes d47) rfl (i0_eq_t rfl) (by decide) rfl ?_
          refine iconstV X18.here hexec rfl 0 (hb hbytes d54) (by decide) ?_
          exact Steps.refl _)
        exact ⟨T18, some (.int 0), _, _, _, X18, rfl, rfl, rfl, (fun h => by cases h), ⟨0, rfl, q18.trans hh16, Or.inr ⟨rfl, fun q => he (iff.mpr q)⟩⟩, fun fs hl => c19.trans (X18.ireturnOut hexec hret rfl (Or.inr (Or.inl rfl)) (hb hbytes d55) hl)⟩
    · have c13 : Steps p.tables e below (s₁.setTop (entryFrame m #[.ref x, .ref y] 3)) (T11.setTop (mkF m 55 #[.val (.ref x), .val (.ref y), .val (.ref y)] [.int 0])) := c12.trans (by
        refine XS.icmpYes X11.here hexec rfl (pc0 := 33) rfl (hb hbytes d33) rfl (ii_ne_t hcd) (by decide) rfl ?_
        refine iconstV X11.here hexec rfl 0 (hb hbytes d54) (by decide) ?_
        exact Steps.refl _)
      exact ⟨T11, some (.int 0), _, _, _, X11, rfl, rfl, rfl, (fun h => by cases h), ⟨0, rfl, hh11, Or.inr ⟨rfl, Cod.dif hx.2.2.2.2.1 hy.2.2.2.2.1 hcd⟩⟩, fun fs hl => c13.trans (X11.ireturnOut hexec hret rfl (Or.inr (Or.inl rfl)) (hb hbytes d55) hl)⟩
theorem pays {l : Launch} {R : Room} {p : Program} {e : Env} {below : List Frame} {s : State} {sargs : Array Value} {len W : Nat} (x t : Addr) (V : Cell) (cd : Int32) (n : Nat) (f : Nat → Int32) (y t' : Addr) (V' : Cell) (cd' : Int32) (k : Nat) (g : Nat → Int32) (z : Int32) (htab : tab.before sargs s = true) (hfr : 2 ≤ R.frames) (hlo : W + 28 ≤ R.locals) :
    Back l R p e below s sargs yN len W (fun A₁ a₁ => A₁.cells + 0 ≤ R.cells ∧ A₁.slots + 0 ≤ R.slots ∧ P x t V cd n f y t' V' cd' k g z a₁ A₁.U) (fun A₁ _ v₁ B₁ => Says01 (SameT n f k g) v₁ A₁.U B₁.U ∧ B₁.locs = A₁.locs ++ [] ∧ B₁.cells = A₁.cells + 0 ∧ B₁.slots = A₁.slots + 0) :=
  (law l x t V cd n f y t' V' cd' k g z).pays htab hfr (by omega)
end SEq
end StrChars
namespace StrChars.Road
open Jvm Sem ClassFile Op Lib Jvm.Stand Jvm.Free Jvm.Free.XT
open Jvm.Lib.Cold (StaticIs)
/-- the words of String.equals(Object) -/
abbrev wordsEq : List Jvm.Cond := [.code SEq.yN SEq.yB 3 (some .boolean), .initialized ST, .classLink ST 10 ST, .fieldLink ST 38 ST "COMPACT_STRINGS" "Z", .fieldLink ST 15 ST "coder" "B", .fieldLink ST 9 ST "value" "[B", .methodLink ST 541 LEq.yN, .static LEq.yN, .code LEq.yN LEq.yB 3 (some .boolean), .initialized "java/lang/StringLatin1"]
theorem tabEq_of {a : Array Value} {s : State} (h : ∀ w ∈ wordsEq, w.before a s = true) : SEq.tab.before a s = true := by
  have hl : LEq.tab.before a s = true := unparts (wk h (.code LEq.yN LEq.yB 3 (some .boolean))) (wks h (.initialized LEq.yN.cls :: LEq.site))
  have q := consq hl h
  exact unparts (wk q (.code SEq.yN SEq.yB 3 (some .boolean))) (wks q (.initialized SEq.yN.cls :: SEq.site))
theorem movedEq {Z s : State} {a0 args : Array Value} (hZ : Z.Warmed39 s.vm) (hw : ∀ d ∈ wordsEq, d.before a0 Z = true) : ∀ d ∈ wordsEq, d.before args s = true := fun d hd => by
  have t : ∀ d ∈ wordsEq, (d.onTables && d.keepsFace) = true := by decide +kernel
  exact RoadKit.mv hZ (hw d hd) (t d hd)
/-- the road's facts of a String, as the laws ask it -/
theorem txt_of {Z U : State} {a0 : Array Value} {kI : Nat} (wi : (Jvm.Cond.instantiable ST kI).before a0 Z = true) (al : Z.vm.Alike U.vm) {x t : Addr} {kb : ClassId} {cs : List Int32} {cd N2 : Int32} {vs : List Value} (E : RoadKit.Exa Z U.heap x ST) (V : RoadKit.Fld Z U.heap x ST "value" "[B" (.ref t)) (C : RoadKit.Fld Z U.heap x ST "coder" "B" (.int cd)) (K : RoadKit.Arv Z U.heap t kb .byte N2 vs (.int 0)) (hc : CodA cs cd N2 vs) (hb : ∀ c ∈ cs, ¬ c < 0 ∧ ¬ (65535 : Int32) < c) (l2 : cs.length ≤ 4000) :
    ∃ A, Txt x t A cd cs.length (fun j => cs.getD j 0) U := by
  obtain ⟨A, K1, K2, K3, K4, K5, K6⟩ := K
  have hcod := hc.cod (by omega) K3 K5
  obtain ⟨D, fV, fC, hB, F1, F2, g1, g2, -, -⟩ := strObj wi al E V C
  exact ⟨A, ⟨_, hB.2.2.1, D, hB.1, rfl, by cases q : D.vm <;> first | rfl | exact absurd q (hB.2.1.2 _)⟩, Has.of hB F1 g1, Has.of hB F2 g2, ⟨K1.1, State.isArrayOf_alike al K1.2.1, K1.2.2, by rcases hcod with ⟨-, q, -⟩ | ⟨-, q, -⟩ <;> omega⟩, hcod, fun j hj => by
    have e : cs.getD j 0 = cs[j] := by simp [List.getD_eq_getElem?_getD, hj]
    show ¬ cs.getD j 0 < 0 ∧ ¬ 65535 < cs.getD j 0
    rw [e]; exact hb _ (List.getElem_mem _)⟩
theorem same_list (cs ds : List Int32) : SameT cs.length (fun j => cs.getD j 0) ds.length (fun j => ds.getD j 0) ↔ cs = ds := by
  constructor
  · rintro ⟨e, q⟩
    refine List.ext_getElem e fun j h1 h2 => ?_
    have := q j h1
    simpa [List.getD_eq_getElem?_getD, h1, h2] using this
  · rintro rfl
    exact ⟨rfl, fun _ _ => rfl⟩
/-- **equals(Object) OF TWO SUCH STRINGS**: 1 just where the chars are the same -/
theorem eqW {p : Program} {l : Launch} {e : Env} {R : Room} {s : State} {args : Array Value} {below : List Frame} {len W : Nat} {Z : State} {a0 : Array Value} {h : Heap} (hZ : Z.Warmed39 s.vm) (hw : ∀ d ∈ wordsEq, d.before a0 Z = true) {kI : Nat} (wi : (Jvm.Cond.instantiable ST kI).before a0 Z = true)
    {x t : Addr} {kb : ClassId} {cs : List Int32} {cd N2 : Int32} {vs : List Value} (E : RoadKit.Exa Z h x ST) (V : RoadKit.Fld Z h x ST "value" "[B" (.ref t)) (C : RoadKit.Fld Z h x ST "coder" "B" (.int cd)) (K : RoadKit.Arv Z h t kb .byte N2 vs (.int 0)) (hc : CodA cs cd N2 vs) (hb : ∀ c ∈ cs, ¬ c < 0 ∧ ¬ (65535 : Int32) < c) (l2 : cs.length ≤ 4000)
    {y t' : Addr} {kb' : ClassId} {ds : List Int32} {cd' N2' : Int32} {vs' : List Value} (E' : RoadKit.Exa Z h y ST) (V' : RoadKit.Fld Z h y ST "value" "[B" (.ref t')) (C' : RoadKit.Fld Z h y ST "coder" "B" (.int cd')) (K' : RoadKit.Arv Z h t' kb' .byte N2' vs' (.int 0)) (hc' : CodA ds cd' N2' vs') (hb' : ∀ c ∈ ds, ¬ c < 0 ∧ ¬ (65535 : Int32) < c) (l2' : ds.length ≤ 4000)
    {z : Int32} (S : RoadKit.Sta Z h ST "COMPACT_STRINGS" "Z" (.int z)) (hz : ¬ z = 0) (hfr : 2 ≤ R.frames) (hlo : W + 28 ≤ R.locals) :
    Back l R p e below s args (⟨"java/lang/String", "equals", "(Ljava/lang/Object;)Z"⟩ : MethodName) len W (fun P a => a = #[.ref x, .ref y] ∧ P.U.heap = h ∧ P.cells + 0 ≤ R.cells ∧ P.slots + 0 ≤ R.slots)
      (fun P _ v B => ∃ L, (((v = some (.int 1) ∧ cs = ds) ∨ (v = some (.int 0) ∧ ¬ cs = ds)) ∧ L = [] ∧ B.U.heap = h) ∧ B.locs = P.locs ++ L ∧ B.cells = P.cells + 0 ∧ B.slots = P.slots + 0) := by
  intro m meth c P g ig mk a X hg hsize hdg hW hn hp'
  obtain ⟨rfl, rfl, r1, r2⟩ := hp'
  have al : Z.vm.Alike P.U.vm := hZ.alike.trans X.warmed.alike
  obtain ⟨A, hx⟩ := txt_of wi al E V C K hc hb l2
  obtain ⟨A', hy⟩ := txt_of wi al E' V' C' K' hc' hb' l2'
  obtain ⟨v, B, X', ⟨⟨w, hv, hh, hq⟩, hl, hk, hs⟩, st⟩ := SEq.pays x t A cd cs.length (fun j => cs.getD j 0) y t' A' cd' ds.length (fun j => ds.getD j 0) z (tabEq_of (movedEq hZ hw)) hfr hlo m meth c P g ig mk _ X hg hsize hdg hW hn ⟨r1, r2, rfl, hx, hy, sta_is al S, hz⟩
  refine ⟨v, B, X', ⟨[], ⟨?_, rfl, hh⟩, hl, hk, hs⟩, st⟩
  rcases hq with ⟨rfl, q⟩ | ⟨rfl, q⟩
  · exact Or.inl ⟨hv, (same_list cs ds).mp q⟩
  · exact Or.inr ⟨hv, fun e => q ((same_list cs ds).mpr e)⟩
end StrChars.Road
namespace StrChars
open Jvm Sem ClassFile Op Lib Jvm.Stand Jvm.Free.XT Jvm.Free.ALB Jvm.Free.JM Jvm.Free
open Jvm.Lib.Cold (StaticIs)
namespace ChN
def yN : MethodName := ⟨"java/lang/String", "charAt", "(I)C"⟩
abbrev yB : ByteArray := jdk_42_method_56_code
theorem d0 : decode yB 0 = .ok (.aload_n 0, 1) := by decide +kernel
theorem d1 : decode yB 1 = .ok (.invokevirtual 492, 3) := by decide +kernel
theorem d4 : decode yB 4 = .ok (.ifCond (.eq) 12, 3) := by decide +kernel
theorem d7 : decode yB 7 = .ok (.aload_n 0, 1) := by decide +kernel
theorem d8 : decode yB 8 = .ok (.getfield 9, 3) := by decide +kernel
theorem d11 : decode yB 11 = .ok (.iload_n 1, 1) := by decide +kernel
theorem d12 : decode yB 12 = .ok (.invokestatic 495, 3) := by decide +kernel
theorem d15 : decode yB 15 = .ok (.ireturn, 1) := by decide +kernel
def site : List Cond := [.fieldLink "java/lang/String" 9 "java/lang/String" "value" "[B", IsL.tab, LChA.tab] ++ virtW "java/lang/String" 492 "java/lang/String" IsL.yN IsL.yN ++ staticW "java/lang/String" 495 LChA.yN
def tab : Cond := tabOf yN yB 2 (some .char) site
def P (x t : Addr) (V : Cell) (n : Nat) (f : Nat → Int32) (z : Int32) (fm : Value) (i : Nat) (args : Array Value) (s : State) : Prop := args = #[.ref x, .int (Int32.ofNat i)] ∧ Txt x t V 0 n f s ∧ i < n ∧ StaticIs s "java/lang/String" "COMPACT_STRINGS" "Z" (.int z) ∧ ¬ z = 0 ∧ StaticIs s "jdk/internal/util/Preconditions" "SIOOBE_FORMATTER" "Ljava/util/function/BiFunction;" fm ∧ fm.isRef = true
def E (f : Nat → Int32) (i : Nat) (r : Option Value) (s u : State) : Prop := XT.PureE (some (.int (f i))) r s u
/-- charAt(i) of a Latin-1 String of n chars, i < n: f i -/
theorem law (l : Launch) (x t : Addr) (V : Cell) (n : Nat) (f : Nat → Int32) (z : Int32) (fm : Value) (i : Nat) : Law l yN 2 1 3 40 yB 2 (some .char) site (P x t V n f z fm i) (E f i) [] 0 0 := by
  refine Law.of_walk (plainFor_of_name (by decide +kernel)) (by decide +kernel) (by decide +kernel) (by decide) (fun _ _ h => by rw [h.1]; rfl) (fun _ U U' hal hh h => ⟨h.1, h.2.1.mv hal hh, h.2.2.1, h.2.2.2.1.there hal hh, h.2.2.2.2.1, h.2.2.2.2.2.1.there hal hh, h.2.2.2.2.2.2⟩) (fun r U U' V V' h1 hal h2 h => XT.PureE.mv r U U' V V' h1 hal h2 h) ?_
  intro p e s m args below meth c s₁ X0 hexec hbytes hml hret hlk hnm hown hh0 W hP
  obtain ⟨rfl, hx, hi, s1, hz, s3, rf⟩ := hP
  have v31 := hx.2.2.2.1.2.2.2
  have hr := hx.2.2.2.2.2 i hi
  have hx0 := hx.mv X0.warmed.alike hh0
  have c1 : Steps p.tables e below (s₁.setTop (entryFrame m #[.ref x, .int (Int32.ofNat i)] 2)) (s₁.setTop (mkF m 1 #[.val (.ref x), .val (.int (Int32.ofNat i))] [.ref x])) := Steps.trans (entry rfl) (by
    show Steps p.tables e below (s₁.setTop (mkF m 0 #[.val (.ref x), .val (.int (Int32.ofNat i))] [])) _
    refine XS.aloadN X0.here hexec rfl (hb hbytes d0) rfl rfl ?_
    exact Steps.refl _)
  obtain ⟨v2, T2, X2, E2, g2⟩ := X0.callV hexec (IsL.law l x 0 z) hown (wks W (virtW "java/lang/String" 492 "java/lang/String" IsL.yN IsL.yN)) rfl (by decide) (wk W IsL.tab) (W := 0) (Nat.le_of_ble_eq_true rfl) (Nat.le_of_ble_eq_true rfl) (Nat.le_refl _) (Nat.le_refl _) (hx0.1.fc X0.warmed.alike) hx0.1.is (g := (mkF m 1 #[.val (.ref x), .val (.int (Int32.ofNat i))] [.ref x])) rfl (by rw [hml]; rfl) c1 (argsL := []) (rest := []) rfl rfl (by show 2 * 0 + 0 ≤ _; decide) (hb hbytes d1) (⟨rfl, hx0.2.2.1, hx.2.2.2.2.1.cd, s1.there X0.warmed.alike hh0, hz⟩)
  obtain ⟨rfl, q2⟩ := E2
  have hh2 := q2.trans hh0
  have hx2 := hx.mv X2.warmed.alike hh2
  obtain ⟨-, k1, k2⟩ | ⟨k0, -⟩ := hx.2.2.2.2.1
  · have c3 : Steps p.tables e below (s₁.setTop (entryFrame m #[.ref x, .int (Int32.ofNat i)] 2)) (T2.setTop (mkF m 8 #[.val (.ref x), .val (.int (Int32.ofNat i))] [.ref x])) := Steps.trans g2 (by
      refine XS.ifNo X2.here hexec rfl (hb hbytes d4) rfl (i0_eq_f (by decide)) ?_
      refine XS.aloadN X2.here hexec rfl (hb hbytes d7) rfl rfl ?_
      exact Steps.refl _)
    obtain ⟨T4, X4, q4, st4⟩ := X2.hget hexec hown (wk W (.fieldLink "java/lang/String" 9 "java/lang/String" "value" "[B")) hx2.2.1 (g := (mkF m 8 #[.val (.ref x), .val (.int (Int32.ofNat i))] [.ref x])) rfl (rest := []) rfl (hb hbytes d8)
    have hh4 := q4.trans hh2
    have c5 : Steps p.tables e below (s₁.setTop (entryFrame m #[.ref x, .int (Int32.ofNat i)] 2)) (T4.setTop (mkF m 12 #[.val (.ref x), .val (.int (Int32.ofNat i))] [.int (Int32.ofNat i), .ref t])) := (c3.trans (st4 _ (Steps.refl _))).trans (by
      refine XS.iloadN X4.here hexec rfl (hb hbytes d11) rfl ?_
      exact Steps.refl _)
    obtain ⟨v6, T6, X6, E6, g6⟩ := X4.callS hexec (LChA.law l t V i (lo8 (f i)) fm) hown (wks W (staticW "java/lang/String" 495 LChA.yN)) (wk W LChA.tab) (W := 0) (Nat.le_of_ble_eq_true rfl) (Nat.le_of_ble_eq_true rfl) (Nat.le_refl _) (Nat.le_refl _) (g := (mkF m 12 #[.val (.ref x), .val (.int (Int32.ofNat i))] [.int (Int32.ofNat i), .ref t])) rfl (by rw [hml]; rfl) c5 (argsL := [.ref t, .int (Int32.ofNat i)]) (rest := []) rfl rfl (by show 2 * 0 + 0 ≤ _; decide) (hb hbytes d12) (⟨rfl, hx.2.2.2.1.mv X4.warmed.alike hh4, (k2 i hi).1, s3.there X4.warmed.alike hh4, rf⟩)
    obtain ⟨rfl, q6⟩ := E6
    rw [chr8_lo8 hr.1 (k2 i hi).2] at g6
    exact ⟨T6, some (.int (f i)), _, _, _, X6, rfl, rfl, rfl, (fun h => by cases h), ⟨rfl, q6.trans hh4⟩, fun fs hl => Steps.trans g6 (X6.ireturnOut hexec hret (narrow_ch hr.1 hr.2) (Or.inr (Or.inr (Or.inr (Or.inl rfl)))) (hb hbytes d15) hl)⟩
  · exact absurd k0 (by decide)
theorem pays {l : Launch} {R : Room} {p : Program} {e : Env} {below : List Frame} {s : State} {sargs : Array Value} {len W : Nat} (x t : Addr) (V : Cell) (n : Nat) (f : Nat → Int32) (z : Int32) (fm : Value) (i : Nat) (htab : tab.before sargs s = true) (hfr : 4 ≤ R.frames) (hlo : W + 53 ≤ R.locals) :
    Back l R p e below s sargs yN len W (fun A₁ a₁ => A₁.cells + 0 ≤ R.cells ∧ A₁.slots + 0 ≤ R.slots ∧ P x t V n f z fm i a₁ A₁.U) (fun A₁ _ v₁ B₁ => E f i v₁ A₁.U B₁.U ∧ B₁.locs = A₁.locs ++ [] ∧ B₁.cells = A₁.cells + 0 ∧ B₁.slots = A₁.slots + 0) :=
  (law l x t V n f z fm i).pays htab hfr (by omega)
end ChN
end StrChars
namespace StrChars.Road
open Jvm Sem ClassFile Op Lib Jvm.Stand Jvm.Free Jvm.Free.XT
open Jvm.Lib.Cold (StaticIs)
/-- the words of String.charAt(int), the Latin-1 road alone -/
abbrev wordsChN : List Jvm.Cond := [.code ChN.yN ChN.yB 2 (some .char), .initialized ST, .fieldLink ST 9 ST "value" "[B", .fieldLink ST 38 ST "COMPACT_STRINGS" "Z", .fieldLink ST 15 ST "coder" "B", .code IsL.yN IsL.yB 1 (some .boolean), .methodLink ST 492 IsL.yN, .declares IsL.yN, .selects ST IsL.yN IsL.yN, .instanceMethod IsL.yN,
  .methodLink ST 495 LChA.yN, .static LChA.yN, .code LChA.yN LChA.yB 2 (some .char), .initialized "java/lang/StringLatin1", .methodLink "java/lang/StringLatin1" 9 JO.Str_checkIndex.yN, .static JO.Str_checkIndex.yN, .code JO.Str_checkIndex.yN JO.Str_checkIndex.yB 2 none,
  .fieldLink ST 1053 "jdk/internal/util/Preconditions" "SIOOBE_FORMATTER" "Ljava/util/function/BiFunction;", .methodLink ST 1059 JC.PreCheck.yN, .static JC.PreCheck.yN, .code JC.PreCheck.yN JC.PreCheck.yB 3 (some .int), .initialized "jdk/internal/util/Preconditions"]
theorem tabChN_of {a : Array Value} {s : State} (h : ∀ w ∈ wordsChN, w.before a s = true) : ChN.tab.before a s = true := by
  have hp : JC.PreCheck.tab.before a s = true := unparts (wk h (.code JC.PreCheck.yN JC.PreCheck.yB 3 (some .int))) (wks h (.initialized JC.PreCheck.yN.cls :: JC.PreCheck.site))
  have qk := consq hp h
  have hk : JO.Str_checkIndex.tab.before a s = true := unparts (wk qk (.code JO.Str_checkIndex.yN JO.Str_checkIndex.yB 2 none)) (wks qk (.initialized JO.Str_checkIndex.yN.cls :: JO.Str_checkIndex.site))
  have ql := consq hk h
  have hl : LChA.tab.before a s = true := unparts (wk ql (.code LChA.yN LChA.yB 2 (some .char))) (wks ql (.initialized LChA.yN.cls :: LChA.site))
  have hi : IsL.tab.before a s = true := unparts (wk h (.code IsL.yN IsL.yB 1 (some .boolean))) (wks h (.initialized IsL.yN.cls :: IsL.site))
  have q := consq hi (consq hl h)
  exact unparts (wk q (.code ChN.yN ChN.yB 2 (some .char))) (wks q (.initialized ChN.yN.cls :: ChN.site))
theorem movedChN {Z s : State} {a0 args : Array Value} (hZ : Z.Warmed39 s.vm) (hw : ∀ d ∈ wordsChN, d.before a0 Z = true) : ∀ d ∈ wordsChN, d.before args s = true := fun d hd => by
  have t : ∀ d ∈ wordsChN, (d.onTables && d.keepsFace) = true := by decide +kernel
  exact RoadKit.mv hZ (hw d hd) (t d hd)
/-- **charAt(i) OF A LATIN-1 STRING**, i < n: the char -/
theorem chN {p : Program} {l : Launch} {e : Env} {R : Room} {s : State} {args : Array Value} {below : List Frame} {len W : Nat} {Z : State} {a0 : Array Value} {h : Heap} (hZ : Z.Warmed39 s.vm) (hw : ∀ d ∈ wordsChN, d.before a0 Z = true) {kI : Nat} (wi : (Jvm.Cond.instantiable ST kI).before a0 Z = true)
    {x t : Addr} {kb : ClassId} {cs : List Int32} {N2 z : Int32} {vs : List Value} {fm : Value} {i : Nat} {j : Int32} (E : RoadKit.Exa Z h x ST) (V : RoadKit.Fld Z h x ST "value" "[B" (.ref t)) (C : RoadKit.Fld Z h x ST "coder" "B" (.int 0)) (K : RoadKit.Arv Z h t kb .byte N2 vs (.int 0)) (hc : CodA cs 0 N2 vs) (hb : ∀ c ∈ cs, ¬ c < 0 ∧ ¬ (65535 : Int32) < c)
    (S : RoadKit.Sta Z h ST "COMPACT_STRINGS" "Z" (.int z)) (hz : ¬ z = 0) (F : RoadKit.Sta Z h "jdk/internal/util/Preconditions" "SIOOBE_FORMATTER" "Ljava/util/function/BiFunction;" fm) (rf : fm.isRef = true) (l2 : cs.length ≤ 4000) (hi : i < cs.length) (hj : j = Int32.ofNat i) (hfr : 4 ≤ R.frames) (hlo : W + 53 ≤ R.locals) :
    Back l R p e below s args (⟨"java/lang/String", "charAt", "(I)C"⟩ : MethodName) len W (fun P a => a = #[.ref x, .int j] ∧ P.U.heap = h ∧ P.cells + 0 ≤ R.cells ∧ P.slots + 0 ≤ R.slots)
      (fun P _ v B => ∃ L, (v = some (.int (cs.getD i 0)) ∧ L = [] ∧ B.U.heap = h) ∧ B.locs = P.locs ++ L ∧ B.cells = P.cells + 0 ∧ B.slots = P.slots + 0) := by
  subst hj
  intro m meth c P g ig mk a X hg hsize hdg hW hn hp'
  obtain ⟨rfl, rfl, r1, r2⟩ := hp'
  have al : Z.vm.Alike P.U.vm := hZ.alike.trans X.warmed.alike
  obtain ⟨A, hx⟩ := txt_of wi al E V C K hc hb l2
  obtain ⟨v, B, X', ⟨⟨hv, hh⟩, hl, hk, hs⟩, st⟩ := ChN.pays x t A cs.length (fun j => cs.getD j 0) z fm i (tabChN_of (movedChN hZ hw)) hfr hlo m meth c P g ig mk _ X hg hsize hdg hW hn ⟨r1, r2, rfl, hx, hi, sta_is al S, hz, sta_is al F, rf⟩
  exact ⟨v, B, X', ⟨[], ⟨hv, rfl, hh⟩, hl, hk, hs⟩, st⟩
/-- what backV says of its String, as the contracts of this text ask it: cs's low bytes, coder 0 -/
theorem codOf {cs : List Int32} {n : Nat} (hn : cs.length = n) (hb : ∀ c ∈ cs, ¬ 255 < c) : CodA cs 0 (Int32.ofNat n) ((cs.map lo8).map Value.int) := Or.inl ⟨rfl, by rw [hn], by simp [List.map_map, Function.comp_def], hb⟩
end StrChars.Road
end Jvm.Pilot.@@N@@

namespace Jvm.Pilot.@@N@@
open Jvm Jvm.ClassFile Sem Op Lib Jvm.Free Jvm.Stand Jvm.LawKit Jvm.RoadKit Bundle Jvm.Pilot.@@N@@.Jvm.D
section OwnKit
abbrev sI (x : Int32) : Slot := .val (.int x)
abbrev sR (a : Addr) : Slot := .val (.ref a)
variable {p : Program} {l : Launch} {e : Env} {R : Room} {s : State} {m : MethodId} {args : Array Value} {below : List Frame} {meth : Method} {c : Code} {T : State} {locs : List Loc} {cells slots : Nat}
def own_Go (p : Program) (e : Env) (below : List Frame) (P : Outcome → State → Prop) (U : State) : Prop := ∃ s₂ o, Steps p.tables e below U s₂ ∧ s₂.status = .running ∧ Ended s₂ below o ∧ P o s₂
abbrev own_Post (s : State) (Q : Option Value → Heap → List Loc → Prop) (K N : Nat) : Outcome → State → Prop := fun o U => ∃ v L, o = .returned v ∧ Q v U.heap L ∧ FrameEnd s o U L K N
theorem own_to {P : Outcome → State → Prop} {U V : State} (k : own_Go p e below P V) (h : ∀ t, Steps p.tables e below V t → Steps p.tables e below U t) : own_Go p e below P U := by
  obtain ⟨s₂, o, a, r⟩ := k
  exact ⟨s₂, o, h _ a, r⟩
theorem own_start {U : State} {K N : Nat} (Q : Option Value → Heap → List Loc → Prop) (k : own_Go p e below (own_Post s Q K N) U) : ∃ s₂ o, Steps p.tables e below U s₂ ∧ s₂.status = .running ∧ Ended s₂ below o ∧ ∃ v L, o = .returned v ∧ Q v s₂.heap L ∧ FrameEnd s o s₂ L K N := k
abbrev own_R (f c s l : Nat) : Room := { frames := f, cells := c, slots := s, locals := l }
abbrev own_MF (l : Launch) (y : MethodName) (bs : ByteArray) (ml : Nat) (rt : Option FieldType) (ws : List Jvm.Cond) (R : Room) (av : Array Value) (Z : State) (h0 : Heap) (Q : Option Value → Heap → List Loc → Prop) : Prop :=
  MetFree l y (head1 (Jvm.Cond.code y bs ml rt :: ws) R) (fun a U => a = av ∧ Z.Warmed39 U.vm ∧ U.heap = h0) (fun _ _ _ _ _ => True) (fun _ U o U' => ∃ v L, o = .returned v ∧ Q v U'.heap L ∧ FrameEnd U o U' L R.cells R.slots)
theorem own_body {y : MethodName} {bs : ByteArray} {ml : Nat} {rt : Option FieldType} {ws : List Jvm.Cond} {av : Array Value} {Z : State} {h0 : Heap} {Q : Option Value → Heap → List Loc → Prop} {F : MethodId → JFrame} (hp : plainFor y = true) (he : ∀ m, entryFrame m av ml = F m)
    (H : ∀ (p : Program) (e : Env) (s : State) (m : MethodId) (below : List Frame) (meth : Method) (c : Code) (s₁ : State), p.tables.exec = Jvm.exec → c.code = bs → meth.sig.returnType = rt → meth.locks = false → c.maxLocals = ml → Z.Warmed39 s.vm → s.vm.findClass y.cls = some m.cls → meth.name = y.name → s.heap = h0 → Stand p l e R s m av below meth c s₁ [] 0 0 → s₁.heap = h0 → own_Go p e below (own_Post s Q R.cells R.slots) (s₁.setTop (F m))) :
    own_MF l y bs ml rt ws R av Z h0 Q := by
  refine MetFree.of_bodySF hp hisR ?_
  intro p e s m args below meth c s₁ Bd hml0 hP _
  obtain ⟨rfl, hZ, hh⟩ := hP
  refine own_start Q ?_
  exact own_to (H p e s m below meth c s₁ Bd.exec Bd.bytes Bd.returns (BodyLoose.notSynchronized Bd) hml0 hZ (findClass_of_methodNamed Bd.named) (name_of_methodNamed Bd.named Bd.method).1 hh (Stand.of_body Bd) (by rw [← hh, Bd.state]; rfl)) (fun t k => castTop (he m) k)
theorem own_cl {Q : Option Value → Heap → List Loc → Prop} {k n : Nat} {g : JFrame} {rest : List Value}
    (C : ∃ (v : Option Value) (vm₁ : Vm) (B : Pt), s.WarmedH vm₁ ∧ Stand p l e R s m args below meth c B.U B.locs B.cells B.slots ∧ (∃ L, Q v B.U.heap L ∧ B.locs = locs ++ L ∧ B.cells = cells + k ∧ B.slots = slots + n) ∧ Steps p.tables e below (T.setTop g) (B.U.setTop { g with pc := g.pc + 3, stack := v.toList ++ rest })) :
    ∃ (v : Option Value) (T' : State) (h' : Heap) (L' Lc : List Loc), Stand p l e R s m args below meth c T' L' (cells + k) (slots + n) ∧ T'.heap = h' ∧ Q v h' Lc ∧ L' = locs ++ Lc ∧ ∀ t, Steps p.tables e below (T'.setTop { g with pc := g.pc + 3, stack := v.toList ++ rest }) t → Steps p.tables e below (T.setTop g) t := by
  obtain ⟨v, _, ⟨T', L', k', n'⟩, -, X, ⟨Lc, hQ, l, y, z⟩, st⟩ := C
  dsimp only [Pt.U, Pt.locs, Pt.cells, Pt.slots] at X l y z st hQ
  subst y z
  exact ⟨v, T', _, L', Lc, X, rfl, hQ, l, fun t k => st.trans k⟩
theorem own_irem {tb : Tables} [Ours tb] {e : Env} {below : List Frame} {T target : State} {m : MethodId} {c : Code} {g : JFrame} (h : At T m c below) (hx : tb.exec = Jvm.exec) (hg : g.method = m) {x y : Int32} {rest : List Value} (hd : decode c.code g.pc = .ok (.irem, 1)) (hs : g.stack = .int y :: .int x :: rest) (hy : y ≠ 0)
    (hr : Steps tb e below (T.setTop { g with pc := g.pc + 1, stack := .int (x % y) :: rest }) target) : Steps tb e below (T.setTop g) target := by
  refine XS.irem h hx hg hd hs hy ?_
  have q : x - x / y * y = x % y := Jvm.irem_eq_mod x y
  rw [q]; exact hr
theorem own_lrem {tb : Tables} [Ours tb] {e : Env} {below : List Frame} {T target : State} {m : MethodId} {c : Code} {g : JFrame} (h : At T m c below) (hx : tb.exec = Jvm.exec) (hg : g.method = m) {x y : Int64} {rest : List Value} (hd : decode c.code g.pc = .ok (.lrem, 1)) (hs : g.stack = .long y :: .long x :: rest) (hy : y ≠ 0)
    (hr : Steps tb e below (T.setTop { g with pc := g.pc + 1, stack := .long (x % y) :: rest }) target) : Steps tb e below (T.setTop g) target := by
  refine Jvm.Free.XT.lrem h hx hg hd hs hy ?_
  have q : x - x / y * y = x % y := Jvm.RoadKit.lrem_mod x y
  rw [q]; exact hr
section Out
variable {Q : Option Value → Heap → List Loc → Prop} {K N : Nat}
theorem own_out (X : Stand p l e R s m args below meth c T locs cells slots) {v : Option Value} (hv : meth.sig.returnType = none → v = none) (hlk : meth.locks = false) {g : JFrame}
    (st : ∀ fs, (∀ (f : JFrame) (acts : List Action), f.method = m → f.locked = none → f.entered = [] → (doReturn e (T.setTop f) acts v).1 = T.setFrames fs) → Steps p.tables e below (T.setTop g) (T.setFrames fs)) (hq : Q v T.heap locs) (hk : cells ≤ K) (hn : slots ≤ N) : own_Go p e below (own_Post s Q K N) (T.setTop g) := by
  obtain ⟨fs, hr, hrun, hended, hW, hsame⟩ := X.leave (v := v) hv hlk
  exact ⟨_, _, st fs hr, hrun, hended, v, locs, rfl, hq, ⟨_, rfl⟩, hW, hsame.mono hk hn⟩
theorem own_retN (X : Stand p l e R s m args below meth c T locs cells slots) (hx : p.tables.exec = Jvm.exec) {pc : Nat} {Ls : Array Slot} {z w : Int32} {t : FieldType} {rest : List Value} (hret : meth.sig.returnType = some t) (ht : t = .boolean ∨ t = .byte ∨ t = .char ∨ t = .short) (hn' : nar t z = w) (hlk : meth.locks = false)
    (hd : decode c.code pc = .ok (.ireturn, 1)) (hq : Q (some (.int w)) T.heap locs) (hk : cells ≤ K) (hn : slots ≤ N) : own_Go p e below (own_Post s Q K N) (T.setTop (mkF m pc Ls (.int z :: rest))) := by
  subst hn'
  exact own_out X (fun h => by rw [hret] at h; cases h) hlk (fun fs hr => retN X hx hret ht hd hr) hq hk hn
theorem own_retI (X : Stand p l e R s m args below meth c T locs cells slots) (hx : p.tables.exec = Jvm.exec) {pc : Nat} {Ls : Array Slot} {z : Int32} {rest : List Value} (hret : meth.sig.returnType = some .int) (hlk : meth.locks = false)
    (hd : decode c.code pc = .ok (.ireturn, 1)) (hq : Q (some (.int z)) T.heap locs) (hk : cells ≤ K) (hn : slots ≤ N) : own_Go p e below (own_Post s Q K N) (T.setTop (mkF m pc Ls (.int z :: rest))) :=
  own_out X (fun h => by rw [hret] at h; cases h) hlk (fun fs hr => retOut X hx hret rfl (Or.inl ⟨rfl, Or.inl rfl, _, rfl⟩) hd hr) hq hk hn
theorem own_retJ (X : Stand p l e R s m args below meth c T locs cells slots) (hx : p.tables.exec = Jvm.exec) {pc : Nat} {Ls : Array Slot} {z : Int64} {rest : List Value} (hret : meth.sig.returnType = some .long) (hlk : meth.locks = false)
    (hd : decode c.code pc = .ok (.lreturn, 1)) (hq : Q (some (.long z)) T.heap locs) (hk : cells ≤ K) (hn : slots ≤ N) : own_Go p e below (own_Post s Q K N) (T.setTop (mkF m pc Ls (.long z :: rest))) :=
  own_out X (fun h => by rw [hret] at h; cases h) hlk (fun fs hr => retOut X hx hret rfl (Or.inr (Or.inl ⟨rfl, rfl, _, rfl⟩)) hd hr) hq hk hn
theorem own_retD (X : Stand p l e R s m args below meth c T locs cells slots) (hx : p.tables.exec = Jvm.exec) {pc : Nat} {Ls : Array Slot} {z : UInt64} {rest : List Value} (hret : meth.sig.returnType = some .double) (hlk : meth.locks = false)
    (hd : decode c.code pc = .ok (.dreturn, 1)) (hq : Q (some (.double z)) T.heap locs) (hk : cells ≤ K) (hn : slots ≤ N) : own_Go p e below (own_Post s Q K N) (T.setTop (mkF m pc Ls (.double z :: rest))) :=
  own_out X (fun h => by rw [hret] at h; cases h) hlk (fun fs hr => retOut X hx hret rfl (Or.inr (Or.inr (Or.inl ⟨rfl, rfl, _, rfl⟩))) hd hr) hq hk hn
theorem own_retR (X : Stand p l e R s m args below meth c T locs cells slots) (hx : p.tables.exec = Jvm.exec) {pc : Nat} {Ls : Array Slot} {w : Value} {t : FieldType} {rest : List Value} (hret : meth.sig.returnType = some t) (ht : t.isReference = true) (hw : w.isRef = true) (hlk : meth.locks = false)
    (hd : decode c.code pc = .ok (.areturn, 1)) (hq : Q (some w) T.heap locs) (hk : cells ≤ K) (hn : slots ≤ N) : own_Go p e below (own_Post s Q K N) (T.setTop (mkF m pc Ls (w :: rest))) :=
  own_out X (fun h => by rw [hret] at h; cases h) hlk (fun fs hr => retOut X hx hret (by cases t <;> first | (cases ht; done) | (cases w <;> first | rfl | (cases hw; done))) (Or.inr (Or.inr (Or.inr (Or.inr ⟨rfl, ht, hw⟩)))) hd hr) hq hk hn
theorem own_retV (X : Stand p l e R s m args below meth c T locs cells slots) (hx : p.tables.exec = Jvm.exec) {pc : Nat} {Ls : Array Slot} (hret : meth.sig.returnType = none) (hlk : meth.locks = false)
    (hd : decode c.code pc = .ok (.return_, 1)) (hq : Q none T.heap locs) (hk : cells ≤ K) (hn : slots ≤ N) : own_Go p e below (own_Post s Q K N) (T.setTop (mkF m pc Ls [])) :=
  own_out X (fun _ => rfl) hlk (fun fs hr => X.returnOut hx hret hd hr) hq hk hn
end Out
abbrev own_PostW (s : State) (Q : Option Value → Heap → List Loc → Prop) (K N : Nat) : Outcome → State → Prop := fun o U => ∃ v L, o = .returned v ∧ Q v U.heap L ∧ ReturnedEndW s o U L K N
theorem own_startW {U : State} {K N : Nat} (Q : Option Value → Heap → List Loc → Prop) (k : own_Go p e below (own_PostW s Q K N) U) : ∃ s₂ o, Steps p.tables e below U s₂ ∧ s₂.status = .running ∧ Ended s₂ below o ∧ ∃ v L, o = .returned v ∧ Q v s₂.heap L ∧ ReturnedEndW s o s₂ L K N := k
section OutW
variable {Q : Option Value → Heap → List Loc → Prop} {K N k0 : Nat} {vm0 : Vm}
theorem own_outW (X : Stand p l e R (s.setVm vm0) m args below meth c T locs cells slots) (hS : s.Since vm0 k0) (hk0 : k0 ≤ T.heap.size) {v : Option Value} (hv : meth.sig.returnType = none → v = none) (hlk : meth.locks = false) {g : JFrame}
    (st : ∀ fs, (∀ (f : JFrame) (acts : List Action), f.method = m → f.locked = none → f.entered = [] → (doReturn e (T.setTop f) acts v).1 = T.setFrames fs) → Steps p.tables e below (T.setTop g) (T.setFrames fs)) (hq : Q v T.heap locs) (hk : cells ≤ K) (hn : slots ≤ N) : own_Go p e below (own_PostW s Q K N) (T.setTop g) := by
  obtain ⟨fs, hr, hrun, hended, h1, h2, h3, hsame⟩ := X.leaveW hS hk0 (v := v) hv hlk
  exact ⟨_, _, st fs hr, hrun, hended, v, locs, rfl, hq, h1, h2, h3, hsame.mono hk hn⟩
theorem own_retNW (X : Stand p l e R (s.setVm vm0) m args below meth c T locs cells slots) (hx : p.tables.exec = Jvm.exec) (hS : s.Since vm0 k0) (hk0 : k0 ≤ T.heap.size) {pc : Nat} {Ls : Array Slot} {z w : Int32} {t : FieldType} {rest : List Value} (hret : meth.sig.returnType = some t) (ht : t = .boolean ∨ t = .byte ∨ t = .char ∨ t = .short) (hn' : nar t z = w) (hlk : meth.locks = false)
    (hd : decode c.code pc = .ok (.ireturn, 1)) (hq : Q (some (.int w)) T.heap locs) (hk : cells ≤ K) (hn : slots ≤ N) : own_Go p e below (own_PostW s Q K N) (T.setTop (mkF m pc Ls (.int z :: rest))) := by
  subst hn'
  exact own_outW X hS hk0 (fun h => by rw [hret] at h; cases h) hlk (fun fs hr => retN X hx hret ht hd hr) hq hk hn
theorem own_retIW (X : Stand p l e R (s.setVm vm0) m args below meth c T locs cells slots) (hx : p.tables.exec = Jvm.exec) (hS : s.Since vm0 k0) (hk0 : k0 ≤ T.heap.size) {pc : Nat} {Ls : Array Slot} {z : Int32} {rest : List Value} (hret : meth.sig.returnType = some .int) (hlk : meth.locks = false)
    (hd : decode c.code pc = .ok (.ireturn, 1)) (hq : Q (some (.int z)) T.heap locs) (hk : cells ≤ K) (hn : slots ≤ N) : own_Go p e below (own_PostW s Q K N) (T.setTop (mkF m pc Ls (.int z :: rest))) :=
  own_outW X hS hk0 (fun h => by rw [hret] at h; cases h) hlk (fun fs hr => retOut X hx hret rfl (Or.inl ⟨rfl, Or.inl rfl, _, rfl⟩) hd hr) hq hk hn
theorem own_retRW (X : Stand p l e R (s.setVm vm0) m args below meth c T locs cells slots) (hx : p.tables.exec = Jvm.exec) (hS : s.Since vm0 k0) (hk0 : k0 ≤ T.heap.size) {pc : Nat} {Ls : Array Slot} {w : Value} {t : FieldType} {rest : List Value} (hret : meth.sig.returnType = some t) (ht : t.isReference = true) (hw : w.isRef = true) (hlk : meth.locks = false)
    (hd : decode c.code pc = .ok (.areturn, 1)) (hq : Q (some w) T.heap locs) (hk : cells ≤ K) (hn : slots ≤ N) : own_Go p e below (own_PostW s Q K N) (T.setTop (mkF m pc Ls (w :: rest))) :=
  own_outW X hS hk0 (fun h => by rw [hret] at h; cases h) hlk (fun fs hr => retOut X hx hret (by cases t <;> first | (cases ht; done) | (cases w <;> first | rfl | (cases hw; done))) (Or.inr (Or.inr (Or.inr (Or.inr ⟨rfl, ht, hw⟩)))) hd hr) hq hk hn
theorem own_retVW (X : Stand p l e R (s.setVm vm0) m args below meth c T locs cells slots) (hx : p.tables.exec = Jvm.exec) (hS : s.Since vm0 k0) (hk0 : k0 ≤ T.heap.size) {pc : Nat} {Ls : Array Slot} (hret : meth.sig.returnType = none) (hlk : meth.locks = false)
    (hd : decode c.code pc = .ok (.return_, 1)) (hq : Q none T.heap locs) (hk : cells ≤ K) (hn : slots ≤ N) : own_Go p e below (own_PostW s Q K N) (T.setTop (mkF m pc Ls [])) :=
  own_outW X hS hk0 (fun _ => rfl) hlk (fun fs hr => X.returnOut hx hret hd hr) hq hk hn
end OutW
abbrev own_PostH (Z : State) (s : State) (Q : Option Value → Heap → List Loc → Prop) (K N : Nat) : Outcome → State → Prop := fun o U => ∃ v L, o = .returned v ∧ Q v U.heap L ∧ CHr Z consts_1 s.vm s.heap U.vm U.heap ∧ ReturnedEndW s o U L K N
theorem own_startH {Z : State} {U : State} {K N : Nat} (Q : Option Value → Heap → List Loc → Prop) (k : own_Go p e below (own_PostH Z s Q K N) U) : ∃ s₂ o, Steps p.tables e below U s₂ ∧ s₂.status = .running ∧ Ended s₂ below o ∧ ∃ v L, o = .returned v ∧ Q v s₂.heap L ∧ CHr Z consts_1 s.vm s.heap s₂.vm s₂.heap ∧ ReturnedEndW s o s₂ L K N := k
section OutH
variable {Q : Option Value → Heap → List Loc → Prop} {K N k0 : Nat} {vm0 : Vm} {Z : State}
theorem own_outH (X : Stand p l e R (s.setVm vm0) m args below meth c T locs cells slots) (hS : s.Since vm0 k0) (hk0 : k0 ≤ T.heap.size) (hch : CHr Z consts_1 s.vm s.heap T.vm T.heap) {v : Option Value} (hv : meth.sig.returnType = none → v = none) (hlk : meth.locks = false) {g : JFrame}
    (st : ∀ fs, (∀ (f : JFrame) (acts : List Action), f.method = m → f.locked = none → f.entered = [] → (doReturn e (T.setTop f) acts v).1 = T.setFrames fs) → Steps p.tables e below (T.setTop g) (T.setFrames fs)) (hq : Q v T.heap locs) (hk : cells ≤ K) (hn : slots ≤ N) : own_Go p e below (own_PostH Z s Q K N) (T.setTop g) := by
  obtain ⟨fs, hr, hrun, hended, h1, h2, h3, hsame⟩ := X.leaveW hS hk0 (v := v) hv hlk
  exact ⟨_, _, st fs hr, hrun, hended, v, locs, rfl, hq, hch, h1, h2, h3, hsame.mono hk hn⟩
theorem own_retNH (X : Stand p l e R (s.setVm vm0) m args below meth c T locs cells slots) (hx : p.tables.exec = Jvm.exec) (hS : s.Since vm0 k0) (hk0 : k0 ≤ T.heap.size) (hch : CHr Z consts_1 s.vm s.heap T.vm T.heap) {pc : Nat} {Ls : Array Slot} {z w : Int32} {t : FieldType} {rest : List Value} (hret : meth.sig.returnType = some t) (ht : t = .boolean ∨ t = .byte ∨ t = .char ∨ t = .short) (hn' : nar t z = w) (hlk : meth.locks = false)
    (hd : decode c.code pc = .ok (.ireturn, 1)) (hq : Q (some (.int w)) T.heap locs) (hk : cells ≤ K) (hn : slots ≤ N) : own_Go p e below (own_PostH Z s Q K N) (T.setTop (mkF m pc Ls (.int z :: rest))) := by
  subst hn'
  exact own_outH X hS hk0 hch (fun h => by rw [hret] at h; cases h) hlk (fun fs hr => retN X hx hret ht hd hr) hq hk hn
theorem own_retIH (X : Stand p l e R (s.setVm vm0) m args below meth c T locs cells slots) (hx : p.tables.exec = Jvm.exec) (hS : s.Since vm0 k0) (hk0 : k0 ≤ T.heap.size) (hch : CHr Z consts_1 s.vm s.heap T.vm T.heap) {pc : Nat} {Ls : Array Slot} {z : Int32} {rest : List Value} (hret : meth.sig.returnType = some .int) (hlk : meth.locks = false)
    (hd : decode c.code pc = .ok (.ireturn, 1)) (hq : Q (some (.int z)) T.heap locs) (hk : cells ≤ K) (hn : slots ≤ N) : own_Go p e below (own_PostH Z s Q K N) (T.setTop (mkF m pc Ls (.int z :: rest))) :=
  own_outH X hS hk0 hch (fun h => by rw [hret] at h; cases h) hlk (fun fs hr => retOut X hx hret rfl (Or.inl ⟨rfl, Or.inl rfl, _, rfl⟩) hd hr) hq hk hn
theorem own_retRH (X : Stand p l e R (s.setVm vm0) m args below meth c T locs cells slots) (hx : p.tables.exec = Jvm.exec) (hS : s.Since vm0 k0) (hk0 : k0 ≤ T.heap.size) (hch : CHr Z consts_1 s.vm s.heap T.vm T.heap) {pc : Nat} {Ls : Array Slot} {w : Value} {t : FieldType} {rest : List Value} (hret : meth.sig.returnType = some t) (ht : t.isReference = true) (hw : w.isRef = true) (hlk : meth.locks = false)
    (hd : decode c.code pc = .ok (.areturn, 1)) (hq : Q (some w) T.heap locs) (hk : cells ≤ K) (hn : slots ≤ N) : own_Go p e below (own_PostH Z s Q K N) (T.setTop (mkF m pc Ls (w :: rest))) :=
  own_outH X hS hk0 hch (fun h => by rw [hret] at h; cases h) hlk (fun fs hr => retOut X hx hret (by cases t <;> first | (cases ht; done) | (cases w <;> first | rfl | (cases hw; done))) (Or.inr (Or.inr (Or.inr (Or.inr ⟨rfl, ht, hw⟩)))) hd hr) hq hk hn
theorem own_retVH (X : Stand p l e R (s.setVm vm0) m args below meth c T locs cells slots) (hx : p.tables.exec = Jvm.exec) (hS : s.Since vm0 k0) (hk0 : k0 ≤ T.heap.size) (hch : CHr Z consts_1 s.vm s.heap T.vm T.heap) {pc : Nat} {Ls : Array Slot} (hret : meth.sig.returnType = none) (hlk : meth.locks = false)
    (hd : decode c.code pc = .ok (.return_, 1)) (hq : Q none T.heap locs) (hk : cells ≤ K) (hn : slots ≤ N) : own_Go p e below (own_PostH Z s Q K N) (T.setTop (mkF m pc Ls [])) :=
  own_outH X hS hk0 hch (fun _ => rfl) hlk (fun fs hr => X.returnOut hx hret hd hr) hq hk hn
end OutH
theorem own_ole {Z : State} {n0 : Nat} {h : Heap} (X : Old Z n0 h) : n0 ≤ h.size := X.1 ▸ X.2.1
theorem own_same {s : State} {a0 : Array Value} {y z : MethodName} {C : String} (hn : y.cls ≠ "java/lang/invoke/MethodHandle" ∧ y.cls ≠ "java/lang/invoke/VarHandle") (hz : z.cls = y.cls) (w1 : (Cond.declares y).before a0 s = true) (w2 : (Cond.selects C z z).before a0 s = true) (w3 : (Cond.instanceMethod z).before a0 s = true) : (Cond.sameMethod y.cls y.cls y.name y.desc).before a0 s = true := by
  obtain ⟨m, meth, h1, h2, -, -⟩ := Cond.declares_spec w1
  have h3 := State.methodFound?_of_named h1 hn
  have h4 := findClass_of_methodNamed h1
  obtain ⟨mz, methz, g1, -⟩ := Cond.instanceMethod_spec w3
  obtain ⟨k, g2, g3⟩ := notFace_of_selects w2 mz g1
  have h5 := findClass_of_methodNamed g1
  rw [hz] at h5
  have e : m.cls = mz.cls := Option.some.inj (h4.symm.trans h5)
  have h1' : s.methodNamed? ⟨y.cls, y.name, y.desc⟩ = some m := h1
  rw [← e] at g2
  simp [Cond.before, Cond.holds, Cond.value, h3, h4, h1', g2, g3]
theorem own_decl {s : State} {a0 : Array Value} {y : MethodName} {b : ByteArray} {n : Nat} {r : Option FieldType} (w1 : (Cond.instanceMethod y).before a0 s = true) (w2 : (Cond.code y b n r).before a0 s = true) : (Cond.declares y).before a0 s = true := by
  obtain ⟨m, meth, h1, h2, h3, -⟩ := Cond.instanceMethod_spec w1
  obtain ⟨meth', c, g1, -, -, -, -, -, -, g8⟩ := Cond.code_spec h1 w2
  cases h2.symm.trans g1
  simp [Cond.before, Cond.holds, Cond.value, h1, h2, h3, g8]
theorem own_nf {s : State} {args : Array Value} {C : String} {y z : MethodName} (e : y.cls = z.cls) (hsel : (Cond.selects C z z).before args s = true) (hi : (Cond.instanceMethod z).before args s = true) : NotFace s y := fun r0 h0 => by
  obtain ⟨m, meth, h1, -⟩ := Cond.instanceMethod_spec hi
  obtain ⟨kr, k1, k2⟩ := notFace_of_selects hsel m h1
  have q0 := findClass_of_methodNamed h0
  have q1 := findClass_of_methodNamed h1
  rw [e] at q0
  have q2 : r0.cls = m.cls := Option.some.inj (q0.symm.trans q1)
  exact ⟨kr, by rw [q2]; exact k1, k2⟩
theorem own_hk {T : State} {h : Heap} {k0 : Nat} (e : T.heap = h) (q : k0 ≤ h.size) : k0 ≤ T.heap.size := Nat.le_trans q (Nat.le_of_eq (congrArg Array.size e.symm))
theorem own_lat2 {cs : List Int32} (h : ∀ c ∈ cs, ¬ c < 0 ∧ ¬ (255 : Int32) < c) : ∀ c ∈ cs, ¬ (255 : Int32) < c := fun c hc => (h c hc).2
theorem own_nm0 {a : Addr} : a ∉ ([] : List Addr) := List.not_mem_nil
theorem own_nmS {a b : Addr} {L : List Addr} (h : a ≠ b) (r : a ∉ L) : a ∉ b :: L := fun q => (List.mem_cons.mp q).elim h r
theorem own_cat {v : Value} (h : v.isRef = true) : v.category = 1 := by cases v <;> first | rfl | (cases h; done)
theorem own_narR {v : Value} {C : String} (h : v.isRef = true) : narrow (.object C) v = v := by cases v <;> first | rfl | (cases h; done)
theorem own_narA {v : Value} {t : FieldType} (h : v.isRef = true) : narrow (.array t) v = v := by cases v <;> first | rfl | (cases h; done)
theorem own_fitA {v : Value} {t : FieldType} (h : v.isRef = true) : fits (.array t) v = true := by cases v <;> first | rfl | (cases h; done)
theorem own_fitR {v : Value} {C : String} (h : v.isRef = true) : fits (.object C) v = true := by cases v <;> first | rfl | (cases h; done)
theorem own_all0 {P : Int32 → Prop} : ∀ x ∈ ([] : List Int32), P x := fun _ q => nomatch q
theorem own_allS {P : Int32 → Prop} {y : Int32} {L : List Int32} (q : P y) (r : ∀ x ∈ L, P x) : ∀ x ∈ y :: L, P x := fun x z => (List.mem_cons.mp z).elim (fun u => u ▸ q) (r x)
theorem own_i2c_rng (x : Int32) : ¬ x.toUInt32.toUInt16.toUInt32.toInt32 < 0 ∧ ¬ (65535 : Int32) < x.toUInt32.toUInt16.toUInt32.toInt32 := by
  have q := c_i2c x
  have e1 : (65535 : Int32).toInt = 65535 := rfl
  have e0 : (0 : Int32).toInt = 0 := rfl
  simp only [Int32.lt_iff_toInt_lt, e1, e0]
  omega
theorem own_and255 (x : Int32) : ¬ (x &&& (255 : Int32)).toUInt32.toUInt16.toUInt32.toInt32 < 0 ∧ ¬ (255 : Int32) < (x &&& (255 : Int32)).toUInt32.toUInt16.toUInt32.toInt32 := by
  rw [i2c_mask]
  have q := c_and x 255 (by decide)
  have e1 : (255 : Int32).toInt = 255 := rfl
  have e0 : (0 : Int32).toInt = 0 := rfl
  simp only [Int32.lt_iff_toInt_lt, e1, e0] at q ⊢
  omega
theorem own_up {x : Int32} (h : ¬ x < 0 ∧ ¬ (255 : Int32) < x) : ¬ x < 0 ∧ ¬ (65535 : Int32) < x := by
  have e1 : (255 : Int32).toInt = 255 := rfl
  have e2 : (65535 : Int32).toInt = 65535 := rfl
  have e0 : (0 : Int32).toInt = 0 := rfl
  simp only [Int32.lt_iff_toInt_lt, e1, e2, e0] at h ⊢
  omega
theorem own_i2c_id {x : Int32} (h : ¬ x < 0 ∧ ¬ (65535 : Int32) < x) : x.toUInt32.toUInt16.toUInt32.toInt32 = x := by
  have q := c_i2c x
  have e2 : (65535 : Int32).toInt = 65535 := rfl
  have e0 : (0 : Int32).toInt = 0 := rfl
  simp only [Int32.lt_iff_toInt_lt, e2, e0] at h
  apply Int32.toInt_inj.mp
  omega
theorem own_narC {x : Int32} (h : ¬ x < 0 ∧ ¬ (65535 : Int32) < x) : nar .char x = x := own_i2c_id h
theorem own_fitC {x : Int32} (h : ¬ x < 0 ∧ ¬ (65535 : Int32) < x) : fits .char (.int x) = true := by rw [← own_narC h]; exact fits_nar_char x
theorem own_narB {x : Int32} : nar .byte (x.toInt8.toInt32) = x.toInt8.toInt32 := by
  have h : ∀ y : Int8, y.toInt32.toInt8 = y := fun y => by simp
  show (x.toInt8.toInt32).toInt8.toInt32 = _
  rw [h]
theorem own_narZ {x : Int32} (h : x = 0 ∨ x = 1) : nar .boolean x = x := by rcases h with rfl | rfl <;> rfl
/-- a String that spells the chars cs; its bytes lie in the array u -/
def own_Str (Z : State) (h : Heap) (a u : Addr) (cs : List Int32) : Prop := Exa Z h a "java/lang/String" ∧ ∃ (cd N : Int32) (k : ClassId) (vs : List Value), Fld Z h a "java/lang/String" "value" "[B" (.ref u) ∧ Fld Z h a "java/lang/String" "coder" "B" (.int cd) ∧ Arv Z h u k .byte N vs (.int 0) ∧ StrChars.Road.CodA cs cd N vs ∧ (∀ c ∈ cs, ¬ c < 0 ∧ ¬ (65535 : Int32) < c) ∧ cs.length ≤ 4000
section Str
variable {Z : State} {h h' : Heap} {a u b : Addr} {cs : List Int32} {ws : List Addr} {sl : Nat} {v : Value}
theorem own_Str.lt (F : own_Str Z h a u cs) : a < h.size := F.1.lt
theorem own_Str.lt2 (F : own_Str Z h a u cs) : u < h.size := by obtain ⟨_, _, _, _, _, _, _, K, _⟩ := F; exact K.lt
theorem own_Str.ext (F : own_Str Z h a u cs) (E : Ext h h') : own_Str Z h' a u cs := by
  obtain ⟨x, cd, N, k, vs, f1, f2, f3, r⟩ := F
  exact ⟨x.ext E, cd, N, k, vs, f1.ext E, f2.ext E, f3.ext E, r⟩
theorem own_Str.keep (F : own_Str Z h a u cs) (K : Keep h h' ws) (q : a ∉ ws) (q' : u ∉ ws) : own_Str Z h' a u cs := by
  obtain ⟨x, cd, N, k, vs, f1, f2, f3, r⟩ := F
  exact ⟨x.keep K, cd, N, k, vs, f1.keep K q, f2.keep K q, f3.keep K q', r⟩
theorem own_Str.wr (F : own_Str Z h a u cs) (W : Wr h h' b sl v) (q : a ≠ b) (q' : u ≠ b) : own_Str Z h' a u cs := by
  obtain ⟨x, cd, N, k, vs, f1, f2, f3, r⟩ := F
  exact ⟨x.wr W, cd, N, k, vs, f1.other W (Or.inl q), f2.other W (Or.inl q), f3.other W q', r⟩
theorem own_mkStr0 {k : ClassId} {N : Int32} (E : Exa Z h a "java/lang/String") (V : Fld Z h a "java/lang/String" "value" "[B" (.ref u)) (C : Fld Z h a "java/lang/String" "coder" "B" (.int 0)) (K : Arv Z h u k .byte N ((cs.map (fun c => c.toInt8.toInt32)).map Value.int) (.int 0)) (hN : N = Int32.ofNat cs.length) (hp : ∀ c ∈ cs, ¬ c < 0 ∧ ¬ (255 : Int32) < c) (l : cs.length ≤ 4000) : own_Str Z h a u cs :=
  ⟨E, 0, N, k, _, V, C, K, by rw [hN]; exact StrChars.Road.codOf rfl (fun c hc => (hp c hc).2), fun c hc => own_up (hp c hc), l⟩
theorem own_mkLit {k : ClassId} {N : Int32} {vs : List Value} (E : Exa Z h a "java/lang/String") (V : Fld Z h a "java/lang/String" "value" "[B" (.ref u)) (C : Fld Z h a "java/lang/String" "coder" "B" (.int 0)) (K : Arv Z h u k .byte N vs (.int 0)) (hN : N = Int32.ofNat cs.length) (hp : ∀ c ∈ cs, ¬ c < 0 ∧ ¬ (255 : Int32) < c) (hv : vs = cs.map (fun c => Value.int (StrChars.lo8 c))) (l : cs.length ≤ 4000) : own_Str Z h a u cs :=
  ⟨E, 0, N, k, vs, V, C, K, Or.inl ⟨rfl, hN, hv, fun c hc => (hp c hc).2⟩, fun c hc => own_up (hp c hc), l⟩
/-- what a String of signs up to 255 holds -/
theorem own_Str.latin (F : own_Str Z h a u cs) (hp : ∀ c ∈ cs, ¬ (255 : Int32) < c) : ∃ (N : Int32) (k : ClassId) (vs : List Value), Exa Z h a "java/lang/String" ∧ Fld Z h a "java/lang/String" "value" "[B" (.ref u) ∧ Fld Z h a "java/lang/String" "coder" "B" (.int 0) ∧ Arv Z h u k .byte N vs (.int 0) ∧ StrChars.Road.CodA cs 0 N vs ∧ (∀ c ∈ cs, ¬ c < 0 ∧ ¬ (65535 : Int32) < c) ∧ cs.length ≤ 4000 := by
  obtain ⟨x, cd, N, k, vs, f1, f2, f3, f4, f5, f6⟩ := F
  have e : cd = 0 := by
    rcases f4 with ⟨q, -⟩ | ⟨-, -, -, c, hc, hw⟩
    · exact q
    · exact absurd hw (hp c hc)
  subst e
  exact ⟨N, k, vs, x, f1, f2, f3, f4, f5, f6⟩
theorem own_Str.latinL (F : own_Str Z h a u cs) (hp : ∀ c ∈ cs, ¬ (255 : Int32) < c) : ∃ (k : ClassId), Exa Z h a "java/lang/String" ∧ Fld Z h a "java/lang/String" "value" "[B" (.ref u) ∧ Fld Z h a "java/lang/String" "coder" "B" (.int 0) ∧ Arv Z h u k .byte (Int32.ofNat cs.length) (cs.map (fun c => Value.int (StrChars.lo8 c))) (.int 0) ∧ (∀ c ∈ cs, ¬ c < 0 ∧ ¬ (65535 : Int32) < c) := by
  obtain ⟨x, cd, N, k, vs, f1, f2, f3, f4, f5, f6⟩ := F
  rcases f4 with ⟨q1, q2, q3, -⟩ | ⟨-, -, -, c, hc, hw⟩
  · subst q1 q2 q3
    exact ⟨k, x, f1, f2, f3, f5⟩
  · exact absurd hw (hp c hc)
/-- what a String with a sign above 255 holds -/
theorem own_Str.wideL (F : own_Str Z h a u cs) (hp : ∃ c ∈ cs, (255 : Int32) < c) : ∃ (k : ClassId), Exa Z h a "java/lang/String" ∧ Fld Z h a "java/lang/String" "value" "[B" (.ref u) ∧ Fld Z h a "java/lang/String" "coder" "B" (.int 1) ∧ Arv Z h u k .byte (Int32.ofNat (2 * cs.length)) (StrChars.Road.wideBytes cs) (.int 0) ∧ (∀ c ∈ cs, ¬ c < 0 ∧ ¬ (65535 : Int32) < c) := by
  obtain ⟨x, cd, N, k, vs, f1, f2, f3, f4, f5, f6⟩ := F
  rcases f4 with ⟨-, -, -, q⟩ | ⟨q1, q2, q3, -⟩
  · obtain ⟨c, hc, hw⟩ := hp
    exact absurd hw (q c hc)
  · subst q1 q2 q3
    exact ⟨k, x, f1, f2, f3, f5⟩
end Str
theorem own_exA {Z : State} {h : Heap} {a u : Addr} {C : String} {n : Nat} {a0 : Array Value} {k : ClassId} {ty : FieldType} {z : Int32} {vs : List Value} {d : Value} (A : Arv Z h u k ty z vs d) (E : Exa Z h a C) (w : (Cond.instantiable C n).before a0 Z = true) : u ≠ a := by
  intro q
  subst q
  obtain ⟨cell, kk, e1, e2, e3, -, -⟩ := E
  obtain ⟨cl, ⟨a1, ⟨-, k', a3, comp, a4⟩, -⟩, -⟩ := A
  cases e1.symm.trans a1
  obtain ⟨t', k2, g1, g2, g3, -⟩ := Cond.instantiable_spec w
  cases g1.symm.trans e2
  cases g2.symm.trans a3
  rw [a4] at g3
  cases g3
theorem own_exU {Z : State} {h : Heap} {a u b : Addr} {cs : List Int32} {C : String} {n : Nat} {a0 : Array Value} (F : own_Str Z h b u cs) (E : Exa Z h a C) (w : (Cond.instantiable C n).before a0 Z = true) : u ≠ a := by
  obtain ⟨_, _, _, _, _, _, _, K, _⟩ := F
  exact own_exA K E w
section Sets
theorem own_staI {s : State} {args : Array Value} {C n d : String} {k : Int32} (h : (Cond.eq (.static C n d) (.int k)).value args s none s [] = some true) (hi : (Cond.initializedFor C n d).before args s = true) : Sta s s.heap C n d (.int k) := by
  obtain ⟨x, y, h1, h2, h3, h4⟩ := cmp_v (Or.inl h)
  cases (Term.int_eval (args := args) (first := s) (o := none) (idx := []) (s := s) k).symm.trans h2
  obtain ⟨z, rfl⟩ := h4
  have e := gotT (Cond.eq_ints h1 (Term.int_eval k)) h
  subst e
  exact Sta.start h1 (Or.inl hi)
theorem own_fldI {s : State} {args : Array Value} {t : Term} {a : Addr} {C n d : String} {k : Int32} (ev : t.eval args s none [] s = some (.ref a)) (h : (Cond.eq (.field t C n d) (.int k)).value args s none s [] = some true) : s.fieldOf? a C n d = some (.int k) := by
  obtain ⟨x, y, h1, h2, h3, h4⟩ := cmp_v (Or.inl h)
  cases (Term.int_eval (args := args) (first := s) (o := none) (idx := []) (s := s) k).symm.trans h2
  obtain ⟨z, rfl⟩ := h4
  have e := gotT (Cond.eq_ints h1 (Term.int_eval k)) h
  subst e
  rw [fld_at ev] at h1
  exact h1
end Sets
section Not
variable {Z : State} {a0 : Array Value}
theorem own_NSroot {O K : String} {n : Nat} (w : (Cond.noSuperclass O).before a0 Z = true) (wk : (Cond.instantiable K n).before a0 Z = true) (hn : O ≠ K) : NS Z O K := by
  obtain ⟨c, k, h1, h2, h3, -, -⟩ := Cond.noSuperclass_spec w
  obtain ⟨t, k2, g1, g2, g3, -⟩ := Cond.instantiable_spec wk
  have ne := ids_ne h1 g1 hn
  refine ⟨c, t, h1, g1, fun fuel => ?_⟩
  cases fuel with
  | zero => rfl
  | succ f => simp [Vm.isSubclassAux, ne, h2, h3]
theorem own_NSno {C S K : String} {n : Nat} (w : (Cond.superclass C S).before a0 Z = true) (wk : (Cond.instantiable K n).before a0 Z = true) (m : NS Z C K) (hn : C ≠ K) : ∃ c t, Z.vm.findClass C = some c ∧ Z.vm.findClass K = some t ∧ Z.vm.assignable c t = false := by
  obtain ⟨c, t, h0, g0, n3⟩ := m
  obtain ⟨p, k, kp, h1, h2, h3, h4, h5, -, h7⟩ := Cond.superclass_spec h0 w
  obtain ⟨t', k', g1, g2, g3, g4⟩ := Cond.instantiable_spec wk
  cases g0.symm.trans g1
  have ne := ids_ne h0 g0 hn
  refine ⟨c, t, h0, g0, ?_⟩
  show Z.vm.assignableAux (255 + 1) c t = false
  have g5 : k'.isInterface = false := (Bool.or_eq_false_iff.mp g4.1).1
  simp [Vm.assignableAux, ne, h2, g2, h5, g3, g5, Vm.isSubclass, n3]
end Not
end OwnKit

abbrev own_mn0 : MethodName := ⟨"com/example/tallowlark/tallowlark/server/StageFromArgumentPinLaw", "at", "(Ljava/lang/String;IIC)C"⟩
abbrev own_mn1 : MethodName := ⟨"java/lang/String", "length", "()I"⟩
abbrev own_mn2 : MethodName := ⟨"java/lang/String", "charAt", "(I)C"⟩
abbrev own_mn3 : MethodName := ⟨"com/example/tallowlark/tallowlark/server/StageFromArgumentPinLaw", "make", "(Ljava/lang/String;IIC)Ljava/lang/String;"⟩
abbrev own_mn4 : MethodName := ⟨"java/lang/String", "<init>", "([C)V"⟩
abbrev own_mn5 : MethodName := ⟨"com/example/tallowlark/tallowlark/server/Stage", "values", "()[Lcom/example/tallowlark/tallowlark/server/Stage;"⟩
abbrev own_mn6 : MethodName := ⟨"java/lang/String", "equals", "(Ljava/lang/Object;)Z"⟩
abbrev own_mn7 : MethodName := ⟨"com/example/tallowlark/tallowlark/server/Stage", "fromArgument", "(Ljava/lang/String;)Lcom/example/tallowlark/tallowlark/server/Stage;"⟩
theorem own_i {a0 : Array Value} {Z : State} {d : Jvm.Cond} (hw : ∀ d ∈ tables_1, d.before a0 Z = true) (i : Nat) (h : tables_1[i]? = some d) : d.before a0 Z = true := hw _ (List.mem_of_getElem? h)
def own_St (Z : State) : Prop := (∃ G1 : Int32, Sta Z Z.heap "java/lang/String" "COMPACT_STRINGS" "Z" (.int G1) ∧ ¬ (G1 = (0 : Int32))) ∧ (∃ G3 : Value, Sta Z Z.heap "jdk/internal/util/Preconditions" "SIOOBE_FORMATTER" "Ljava/util/function/BiFunction;" G3 ∧ G3.isRef = true) ∧ True
theorem own_hws {a0 : Array Value} {Z : State} (hw : ∀ d ∈ tables_1, d.before a0 Z = true) : ∀ d ∈ StrChars.Road.words, d.before a0 Z = true := fun d hd => hw d ((by decide +kernel : ∀ d ∈ StrChars.Road.words, d ∈ tables_1) d hd)
theorem own_hln {a0 : Array Value} {Z : State} (hw : ∀ d ∈ tables_1, d.before a0 Z = true) : ∀ d ∈ StrChars.Road.wordsLen, d.before a0 Z = true := fun d hd => hw d ((by decide +kernel : ∀ d ∈ StrChars.Road.wordsLen, d ∈ tables_1) d hd)
theorem own_hch {a0 : Array Value} {Z : State} (hw : ∀ d ∈ tables_1, d.before a0 Z = true) : ∀ d ∈ StrChars.Road.wordsChN, d.before a0 Z = true := fun d hd => hw d ((by decide +kernel : ∀ d ∈ StrChars.Road.wordsChN, d ∈ tables_1) d hd)
theorem own_heq {a0 : Array Value} {Z : State} (hw : ∀ d ∈ tables_1, d.before a0 Z = true) : ∀ d ∈ StrChars.Road.wordsEq, d.before a0 Z = true := fun d hd => hw d ((by decide +kernel : ∀ d ∈ StrChars.Road.wordsEq, d ∈ tables_1) d hd)
theorem own_hsa {a0 : Array Value} {Z : State} (hw : ∀ d ∈ tables_1, d.before a0 Z = true) : ∀ d ∈ Bundle.stringAtoms, d.before a0 Z = true := fun d hd => hw d ((by decide +kernel : ∀ d ∈ Bundle.stringAtoms, d ∈ tables_1) d hd)
theorem own_hEL {a0 : Array Value} {Z : State} (hw : ∀ d ∈ tables_1, d.before a0 Z = true) : EW Z a0 consts_1 := (EW.cons (own_i hw 106 rfl) (by decide) (EW.cons (own_i hw 0 rfl) (by decide) (EW.cons (own_i hw 108 rfl) (by decide) EW.nil)))
def own_Stg (Z : State) (dv pd : Addr) : Prop := Sta Z Z.heap "com/example/tallowlark/tallowlark/server/Stage" "DEVELOPMENT" "Lcom/example/tallowlark/tallowlark/server/Stage;" (.ref dv) ∧ Sta Z Z.heap "com/example/tallowlark/tallowlark/server/Stage" "PRODUCTION" "Lcom/example/tallowlark/tallowlark/server/Stage;" (.ref pd) ∧ Exa Z Z.heap dv "com/example/tallowlark/tallowlark/server/Stage" ∧ Exa Z Z.heap pd "com/example/tallowlark/tallowlark/server/Stage" ∧ ∃ (va : Addr) (kV : ClassId) (sd ud sp up : Addr), Sta Z Z.heap "com/example/tallowlark/tallowlark/server/Stage" "$VALUES" "[Lcom/example/tallowlark/tallowlark/server/Stage;" (.ref va) ∧ Exa Z Z.heap va "[Lcom/example/tallowlark/tallowlark/server/Stage;" ∧ Arv Z Z.heap va kV (.object "com/example/tallowlark/tallowlark/server/Stage") (2 : Int32) [(.ref dv), (.ref pd)] .null ∧ Fld Z Z.heap dv "com/example/tallowlark/tallowlark/server/Stage" "argument" "Ljava/lang/String;" (.ref sd) ∧ Fld Z Z.heap pd "com/example/tallowlark/tallowlark/server/Stage" "argument" "Ljava/lang/String;" (.ref sp) ∧ own_Str Z Z.heap sd ud ([(68 : Int32), (101 : Int32), (118 : Int32), (101 : Int32), (108 : Int32), (111 : Int32), (112 : Int32), (109 : Int32), (101 : Int32), (110 : Int32), (116 : Int32)] : List Int32) ∧ own_Str Z Z.heap sp up ([(80 : Int32), (114 : Int32), (111 : Int32), (100 : Int32), (117 : Int32), (99 : Int32), (116 : Int32), (105 : Int32), (111 : Int32), (110 : Int32)] : List Int32)
def own_at (k p c d : Int32) : Int32 := if k = p then c else d
theorem own_at_pos {k p c d : Int32} (h : k = p) : c = own_at k p c d := by rw [own_at, if_pos h]
theorem own_at_neg {k p c d : Int32} (h : ¬ (k = p)) : d = own_at k p c d := by rw [own_at, if_neg h]
theorem own_at_lat {k p c d : Int32} (hc : ¬ c < 0 ∧ ¬ (255 : Int32) < c) (hd : ¬ d < 0 ∧ ¬ (255 : Int32) < d) : ¬ own_at k p c d < 0 ∧ ¬ (255 : Int32) < own_at k p c d := by
  unfold own_at
  split
  · exact hc
  · exact hd
theorem own_and7 (x : Int32) : (x &&& (7 : Int32)) = 0 ∨ (x &&& (7 : Int32)) = 1 ∨ (x &&& (7 : Int32)) = 2 ∨ (x &&& (7 : Int32)) = 3 ∨ (x &&& (7 : Int32)) = 4 ∨ (x &&& (7 : Int32)) = 5 ∨ (x &&& (7 : Int32)) = 6 ∨ (x &&& (7 : Int32)) = 7 := by
  have q := c_and x 7 (by decide)
  have e0 : (0 : Int32).toInt = 0 := rfl
  have e1 : (1 : Int32).toInt = 1 := rfl
  have e2 : (2 : Int32).toInt = 2 := rfl
  have e3 : (3 : Int32).toInt = 3 := rfl
  have e4 : (4 : Int32).toInt = 4 := rfl
  have e5 : (5 : Int32).toInt = 5 := rfl
  have e6 : (6 : Int32).toInt = 6 := rfl
  have e7 : (7 : Int32).toInt = 7 := rfl
  simp only [← Int32.toInt_inj, e0, e1, e2, e3, e4, e5, e6, e7]
  simp only [e7] at q
  omega
theorem own_rem10 (x : Int32) : ((x &&& (2147483647 : Int32)) % (10 : Int32)) = 0 ∨ ((x &&& (2147483647 : Int32)) % (10 : Int32)) = 1 ∨ ((x &&& (2147483647 : Int32)) % (10 : Int32)) = 2 ∨ ((x &&& (2147483647 : Int32)) % (10 : Int32)) = 3 ∨ ((x &&& (2147483647 : Int32)) % (10 : Int32)) = 4 ∨ ((x &&& (2147483647 : Int32)) % (10 : Int32)) = 5 ∨ ((x &&& (2147483647 : Int32)) % (10 : Int32)) = 6 ∨ ((x &&& (2147483647 : Int32)) % (10 : Int32)) = 7 ∨ ((x &&& (2147483647 : Int32)) % (10 : Int32)) = 8 ∨ ((x &&& (2147483647 : Int32)) % (10 : Int32)) = 9 := by
  have h := c_irem (x &&& 2147483647) 10 10 rfl
  have h0 := (c_and x 2147483647 (by decide)).1
  have h1 := h.1 h0
  have e0 : (0 : Int32).toInt = 0 := rfl
  have e1 : (1 : Int32).toInt = 1 := rfl
  have e2 : (2 : Int32).toInt = 2 := rfl
  have e3 : (3 : Int32).toInt = 3 := rfl
  have e4 : (4 : Int32).toInt = 4 := rfl
  have e5 : (5 : Int32).toInt = 5 := rfl
  have e6 : (6 : Int32).toInt = 6 := rfl
  have e7 : (7 : Int32).toInt = 7 := rfl
  have e8 : (8 : Int32).toInt = 8 := rfl
  have e9 : (9 : Int32).toInt = 9 := rfl
  simp only [← Int32.toInt_inj, e0, e1, e2, e3, e4, e5, e6, e7, e8, e9]
  omega
theorem own_rem11 (x : Int32) : ((x &&& (2147483647 : Int32)) % (11 : Int32)) = 0 ∨ ((x &&& (2147483647 : Int32)) % (11 : Int32)) = 1 ∨ ((x &&& (2147483647 : Int32)) % (11 : Int32)) = 2 ∨ ((x &&& (2147483647 : Int32)) % (11 : Int32)) = 3 ∨ ((x &&& (2147483647 : Int32)) % (11 : Int32)) = 4 ∨ ((x &&& (2147483647 : Int32)) % (11 : Int32)) = 5 ∨ ((x &&& (2147483647 : Int32)) % (11 : Int32)) = 6 ∨ ((x &&& (2147483647 : Int32)) % (11 : Int32)) = 7 ∨ ((x &&& (2147483647 : Int32)) % (11 : Int32)) = 8 ∨ ((x &&& (2147483647 : Int32)) % (11 : Int32)) = 9 ∨ ((x &&& (2147483647 : Int32)) % (11 : Int32)) = 10 := by
  have h := c_irem (x &&& 2147483647) 11 11 rfl
  have h0 := (c_and x 2147483647 (by decide)).1
  have h1 := h.1 h0
  have e0 : (0 : Int32).toInt = 0 := rfl
  have e1 : (1 : Int32).toInt = 1 := rfl
  have e2 : (2 : Int32).toInt = 2 := rfl
  have e3 : (3 : Int32).toInt = 3 := rfl
  have e4 : (4 : Int32).toInt = 4 := rfl
  have e5 : (5 : Int32).toInt = 5 := rfl
  have e6 : (6 : Int32).toInt = 6 := rfl
  have e7 : (7 : Int32).toInt = 7 := rfl
  have e8 : (8 : Int32).toInt = 8 := rfl
  have e9 : (9 : Int32).toInt = 9 := rfl
  have e10 : (10 : Int32).toInt = 10 := rfl
  simp only [← Int32.toInt_inj, e0, e1, e2, e3, e4, e5, e6, e7, e8, e9, e10]
  omega
theorem own_DP : ¬ (([(68 : Int32), (101 : Int32), (118 : Int32), (101 : Int32), (108 : Int32), (111 : Int32), (112 : Int32), (109 : Int32), (101 : Int32), (110 : Int32), (116 : Int32)] : List Int32) = ([(80 : Int32), (114 : Int32), (111 : Int32), (100 : Int32), (117 : Int32), (99 : Int32), (116 : Int32), (105 : Int32), (111 : Int32), (110 : Int32)] : List Int32)) := by decide
theorem own_x1 {cs : List Int32} {ve : Value} {dv pd : Addr} (h : (([(68 : Int32), (101 : Int32), (118 : Int32), (101 : Int32), (108 : Int32), (111 : Int32), (112 : Int32), (109 : Int32), (101 : Int32), (110 : Int32), (116 : Int32)] : List Int32) = cs ∧ ve = .ref dv) ∨ (([(80 : Int32), (114 : Int32), (111 : Int32), (100 : Int32), (117 : Int32), (99 : Int32), (116 : Int32), (105 : Int32), (111 : Int32), (110 : Int32)] : List Int32) = cs ∧ ve = .ref pd) ∨ (¬ ([(68 : Int32), (101 : Int32), (118 : Int32), (101 : Int32), (108 : Int32), (111 : Int32), (112 : Int32), (109 : Int32), (101 : Int32), (110 : Int32), (116 : Int32)] : List Int32) = cs ∧ ¬ ([(80 : Int32), (114 : Int32), (111 : Int32), (100 : Int32), (117 : Int32), (99 : Int32), (116 : Int32), (105 : Int32), (111 : Int32), (110 : Int32)] : List Int32) = cs ∧ ve = .null)) (q : ([(68 : Int32), (101 : Int32), (118 : Int32), (101 : Int32), (108 : Int32), (111 : Int32), (112 : Int32), (109 : Int32), (101 : Int32), (110 : Int32), (116 : Int32)] : List Int32) = cs) : Value.ref dv = ve := by
  rcases h with h | h | h
  · exact h.2.symm
  · exact absurd (q.trans h.1.symm) own_DP
  · exact absurd q h.1
theorem own_x2 {cs : List Int32} {ve : Value} {dv pd : Addr} (h : (([(68 : Int32), (101 : Int32), (118 : Int32), (101 : Int32), (108 : Int32), (111 : Int32), (112 : Int32), (109 : Int32), (101 : Int32), (110 : Int32), (116 : Int32)] : List Int32) = cs ∧ ve = .ref dv) ∨ (([(80 : Int32), (114 : Int32), (111 : Int32), (100 : Int32), (117 : Int32), (99 : Int32), (116 : Int32), (105 : Int32), (111 : Int32), (110 : Int32)] : List Int32) = cs ∧ ve = .ref pd) ∨ (¬ ([(68 : Int32), (101 : Int32), (118 : Int32), (101 : Int32), (108 : Int32), (111 : Int32), (112 : Int32), (109 : Int32), (101 : Int32), (110 : Int32), (116 : Int32)] : List Int32) = cs ∧ ¬ ([(80 : Int32), (114 : Int32), (111 : Int32), (100 : Int32), (117 : Int32), (99 : Int32), (116 : Int32), (105 : Int32), (111 : Int32), (110 : Int32)] : List Int32) = cs ∧ ve = .null)) (q : ¬ ([(68 : Int32), (101 : Int32), (118 : Int32), (101 : Int32), (108 : Int32), (111 : Int32), (112 : Int32), (109 : Int32), (101 : Int32), (110 : Int32), (116 : Int32)] : List Int32) = cs) (q2 : ([(80 : Int32), (114 : Int32), (111 : Int32), (100 : Int32), (117 : Int32), (99 : Int32), (116 : Int32), (105 : Int32), (111 : Int32), (110 : Int32)] : List Int32) = cs) : Value.ref pd = ve := by
  rcases h with h | h | h
  · exact absurd h.1 q
  · exact h.2.symm
  · exact absurd q2 h.2.1
theorem own_x3 {cs : List Int32} {ve : Value} {dv pd : Addr} (h : (([(68 : Int32), (101 : Int32), (118 : Int32), (101 : Int32), (108 : Int32), (111 : Int32), (112 : Int32), (109 : Int32), (101 : Int32), (110 : Int32), (116 : Int32)] : List Int32) = cs ∧ ve = .ref dv) ∨ (([(80 : Int32), (114 : Int32), (111 : Int32), (100 : Int32), (117 : Int32), (99 : Int32), (116 : Int32), (105 : Int32), (111 : Int32), (110 : Int32)] : List Int32) = cs ∧ ve = .ref pd) ∨ (¬ ([(68 : Int32), (101 : Int32), (118 : Int32), (101 : Int32), (108 : Int32), (111 : Int32), (112 : Int32), (109 : Int32), (101 : Int32), (110 : Int32), (116 : Int32)] : List Int32) = cs ∧ ¬ ([(80 : Int32), (114 : Int32), (111 : Int32), (100 : Int32), (117 : Int32), (99 : Int32), (116 : Int32), (105 : Int32), (111 : Int32), (110 : Int32)] : List Int32) = cs ∧ ve = .null)) (q : ¬ ([(68 : Int32), (101 : Int32), (118 : Int32), (101 : Int32), (108 : Int32), (111 : Int32), (112 : Int32), (109 : Int32), (101 : Int32), (110 : Int32), (116 : Int32)] : List Int32) = cs) (q2 : ¬ ([(80 : Int32), (114 : Int32), (111 : Int32), (100 : Int32), (117 : Int32), (99 : Int32), (116 : Int32), (105 : Int32), (111 : Int32), (110 : Int32)] : List Int32) = cs) : Value.null = ve := by
  rcases h with h | h | h
  · exact absurd h.1 q
  · exact absurd h.1 q2
  · exact h.2.2.symm
theorem own_lnP (k v : Int32) : ¬ (([(68 : Int32), (101 : Int32), (118 : Int32), (101 : Int32), (108 : Int32), (111 : Int32), (112 : Int32), (109 : Int32), (101 : Int32), (110 : Int32), (116 : Int32)] : List Int32) = ([(own_at (0 : Int32) k v (80 : Int32)), (own_at (1 : Int32) k v (114 : Int32)), (own_at (2 : Int32) k v (111 : Int32)), (own_at (3 : Int32) k v (100 : Int32)), (own_at (4 : Int32) k v (117 : Int32)), (own_at (5 : Int32) k v (99 : Int32)), (own_at (6 : Int32) k v (116 : Int32)), (own_at (7 : Int32) k v (105 : Int32)), (own_at (8 : Int32) k v (111 : Int32)), (own_at (9 : Int32) k v (110 : Int32))] : List Int32)) := fun q => absurd (show (11 : Nat) = 10 from congrArg List.length q) (by decide)
theorem own_psP {k v ch : Int32} (h : (k = (0 : Int32) ∧ ch = (80 : Int32)) ∨ (k = (1 : Int32) ∧ ch = (114 : Int32)) ∨ (k = (2 : Int32) ∧ ch = (111 : Int32)) ∨ (k = (3 : Int32) ∧ ch = (100 : Int32)) ∨ (k = (4 : Int32) ∧ ch = (117 : Int32)) ∨ (k = (5 : Int32) ∧ ch = (99 : Int32)) ∨ (k = (6 : Int32) ∧ ch = (116 : Int32)) ∨ (k = (7 : Int32) ∧ ch = (105 : Int32)) ∨ (k = (8 : Int32) ∧ ch = (111 : Int32)) ∨ (k = (9 : Int32) ∧ ch = (110 : Int32))) (e : v = ch) : ([(80 : Int32), (114 : Int32), (111 : Int32), (100 : Int32), (117 : Int32), (99 : Int32), (116 : Int32), (105 : Int32), (111 : Int32), (110 : Int32)] : List Int32) = ([(own_at (0 : Int32) k v (80 : Int32)), (own_at (1 : Int32) k v (114 : Int32)), (own_at (2 : Int32) k v (111 : Int32)), (own_at (3 : Int32) k v (100 : Int32)), (own_at (4 : Int32) k v (117 : Int32)), (own_at (5 : Int32) k v (99 : Int32)), (own_at (6 : Int32) k v (116 : Int32)), (own_at (7 : Int32) k v (105 : Int32)), (own_at (8 : Int32) k v (111 : Int32)), (own_at (9 : Int32) k v (110 : Int32))] : List Int32) := by
  rcases h with ⟨rfl, rfl⟩ | ⟨rfl, rfl⟩ | ⟨rfl, rfl⟩ | ⟨rfl, rfl⟩ | ⟨rfl, rfl⟩ | ⟨rfl, rfl⟩ | ⟨rfl, rfl⟩ | ⟨rfl, rfl⟩ | ⟨rfl, rfl⟩ | ⟨rfl, rfl⟩ <;> subst e <;> rfl
theorem own_ngP {k v ch : Int32} (h : (k = (0 : Int32) ∧ ch = (80 : Int32)) ∨ (k = (1 : Int32) ∧ ch = (114 : Int32)) ∨ (k = (2 : Int32) ∧ ch = (111 : Int32)) ∨ (k = (3 : Int32) ∧ ch = (100 : Int32)) ∨ (k = (4 : Int32) ∧ ch = (117 : Int32)) ∨ (k = (5 : Int32) ∧ ch = (99 : Int32)) ∨ (k = (6 : Int32) ∧ ch = (116 : Int32)) ∨ (k = (7 : Int32) ∧ ch = (105 : Int32)) ∨ (k = (8 : Int32) ∧ ch = (111 : Int32)) ∨ (k = (9 : Int32) ∧ ch = (110 : Int32))) (e : ¬ (v = ch)) : ¬ (([(80 : Int32), (114 : Int32), (111 : Int32), (100 : Int32), (117 : Int32), (99 : Int32), (116 : Int32), (105 : Int32), (111 : Int32), (110 : Int32)] : List Int32) = ([(own_at (0 : Int32) k v (80 : Int32)), (own_at (1 : Int32) k v (114 : Int32)), (own_at (2 : Int32) k v (111 : Int32)), (own_at (3 : Int32) k v (100 : Int32)), (own_at (4 : Int32) k v (117 : Int32)), (own_at (5 : Int32) k v (99 : Int32)), (own_at (6 : Int32) k v (116 : Int32)), (own_at (7 : Int32) k v (105 : Int32)), (own_at (8 : Int32) k v (111 : Int32)), (own_at (9 : Int32) k v (110 : Int32))] : List Int32)) := by
  rcases h with ⟨rfl, rfl⟩ | ⟨rfl, rfl⟩ | ⟨rfl, rfl⟩ | ⟨rfl, rfl⟩ | ⟨rfl, rfl⟩ | ⟨rfl, rfl⟩ | ⟨rfl, rfl⟩ | ⟨rfl, rfl⟩ | ⟨rfl, rfl⟩ | ⟨rfl, rfl⟩
  · exact fun q => e (show v = (80 : Int32) from (congrArg (fun l : List Int32 => l.getD 0 0) q).symm)
  · exact fun q => e (show v = (114 : Int32) from (congrArg (fun l : List Int32 => l.getD 1 0) q).symm)
  · exact fun q => e (show v = (111 : Int32) from (congrArg (fun l : List Int32 => l.getD 2 0) q).symm)
  · exact fun q => e (show v = (100 : Int32) from (congrArg (fun l : List Int32 => l.getD 3 0) q).symm)
  · exact fun q => e (show v = (117 : Int32) from (congrArg (fun l : List Int32 => l.getD 4 0) q).symm)
  · exact fun q => e (show v = (99 : Int32) from (congrArg (fun l : List Int32 => l.getD 5 0) q).symm)
  · exact fun q => e (show v = (116 : Int32) from (congrArg (fun l : List Int32 => l.getD 6 0) q).symm)
  · exact fun q => e (show v = (105 : Int32) from (congrArg (fun l : List Int32 => l.getD 7 0) q).symm)
  · exact fun q => e (show v = (111 : Int32) from (congrArg (fun l : List Int32 => l.getD 8 0) q).symm)
  · exact fun q => e (show v = (110 : Int32) from (congrArg (fun l : List Int32 => l.getD 9 0) q).symm)
theorem own_flP {k v : Int32} (h : (k = (0 : Int32) ∧ v = (112 : Int32)) ∨ (k = (1 : Int32) ∧ v = (82 : Int32)) ∨ (k = (2 : Int32) ∧ v = (79 : Int32)) ∨ (k = (3 : Int32) ∧ v = (68 : Int32)) ∨ (k = (4 : Int32) ∧ v = (85 : Int32)) ∨ (k = (5 : Int32) ∧ v = (67 : Int32)) ∨ (k = (6 : Int32) ∧ v = (84 : Int32)) ∨ (k = (7 : Int32) ∧ v = (73 : Int32)) ∨ (k = (8 : Int32) ∧ v = (79 : Int32)) ∨ (k = (9 : Int32) ∧ v = (78 : Int32))) : ¬ (([(80 : Int32), (114 : Int32), (111 : Int32), (100 : Int32), (117 : Int32), (99 : Int32), (116 : Int32), (105 : Int32), (111 : Int32), (110 : Int32)] : List Int32) = ([(own_at (0 : Int32) k v (80 : Int32)), (own_at (1 : Int32) k v (114 : Int32)), (own_at (2 : Int32) k v (111 : Int32)), (own_at (3 : Int32) k v (100 : Int32)), (own_at (4 : Int32) k v (117 : Int32)), (own_at (5 : Int32) k v (99 : Int32)), (own_at (6 : Int32) k v (116 : Int32)), (own_at (7 : Int32) k v (105 : Int32)), (own_at (8 : Int32) k v (111 : Int32)), (own_at (9 : Int32) k v (110 : Int32))] : List Int32)) := by
  rcases h with ⟨rfl, rfl⟩ | ⟨rfl, rfl⟩ | ⟨rfl, rfl⟩ | ⟨rfl, rfl⟩ | ⟨rfl, rfl⟩ | ⟨rfl, rfl⟩ | ⟨rfl, rfl⟩ | ⟨rfl, rfl⟩ | ⟨rfl, rfl⟩ | ⟨rfl, rfl⟩
  · exact fun q => absurd (show (80 : Int32) = (112 : Int32) from congrArg (fun l : List Int32 => l.getD 0 0) q) (by decide)
  · exact fun q => absurd (show (114 : Int32) = (82 : Int32) from congrArg (fun l : List Int32 => l.getD 1 0) q) (by decide)
  · exact fun q => absurd (show (111 : Int32) = (79 : Int32) from congrArg (fun l : List Int32 => l.getD 2 0) q) (by decide)
  · exact fun q => absurd (show (100 : Int32) = (68 : Int32) from congrArg (fun l : List Int32 => l.getD 3 0) q) (by decide)
  · exact fun q => absurd (show (117 : Int32) = (85 : Int32) from congrArg (fun l : List Int32 => l.getD 4 0) q) (by decide)
  · exact fun q => absurd (show (99 : Int32) = (67 : Int32) from congrArg (fun l : List Int32 => l.getD 5 0) q) (by decide)
  · exact fun q => absurd (show (116 : Int32) = (84 : Int32) from congrArg (fun l : List Int32 => l.getD 6 0) q) (by decide)
  · exact fun q => absurd (show (105 : Int32) = (73 : Int32) from congrArg (fun l : List Int32 => l.getD 7 0) q) (by decide)
  · exact fun q => absurd (show (111 : Int32) = (79 : Int32) from congrArg (fun l : List Int32 => l.getD 8 0) q) (by decide)
  · exact fun q => absurd (show (110 : Int32) = (78 : Int32) from congrArg (fun l : List Int32 => l.getD 9 0) q) (by decide)
theorem own_frP {k v : Int32} (h : (k = (0 : Int32) ∧ v = (112 : Int32)) ∨ (k = (1 : Int32) ∧ v = (82 : Int32)) ∨ (k = (2 : Int32) ∧ v = (79 : Int32)) ∨ (k = (3 : Int32) ∧ v = (68 : Int32)) ∨ (k = (4 : Int32) ∧ v = (85 : Int32)) ∨ (k = (5 : Int32) ∧ v = (67 : Int32)) ∨ (k = (6 : Int32) ∧ v = (84 : Int32)) ∨ (k = (7 : Int32) ∧ v = (73 : Int32)) ∨ (k = (8 : Int32) ∧ v = (79 : Int32)) ∨ (k = (9 : Int32) ∧ v = (78 : Int32))) : ¬ v < 0 ∧ ¬ (255 : Int32) < v := by
  rcases h with ⟨rfl, rfl⟩ | ⟨rfl, rfl⟩ | ⟨rfl, rfl⟩ | ⟨rfl, rfl⟩ | ⟨rfl, rfl⟩ | ⟨rfl, rfl⟩ | ⟨rfl, rfl⟩ | ⟨rfl, rfl⟩ | ⟨rfl, rfl⟩ | ⟨rfl, rfl⟩ <;> decide
theorem own_lnD (k v : Int32) : ¬ (([(80 : Int32), (114 : Int32), (111 : Int32), (100 : Int32), (117 : Int32), (99 : Int32), (116 : Int32), (105 : Int32), (111 : Int32), (110 : Int32)] : List Int32) = ([(own_at (0 : Int32) k v (68 : Int32)), (own_at (1 : Int32) k v (101 : Int32)), (own_at (2 : Int32) k v (118 : Int32)), (own_at (3 : Int32) k v (101 : Int32)), (own_at (4 : Int32) k v (108 : Int32)), (own_at (5 : Int32) k v (111 : Int32)), (own_at (6 : Int32) k v (112 : Int32)), (own_at (7 : Int32) k v (109 : Int32)), (own_at (8 : Int32) k v (101 : Int32)), (own_at (9 : Int32) k v (110 : Int32)), (own_at (10 : Int32) k v (116 : Int32))] : List Int32)) := fun q => absurd (show (10 : Nat) = 11 from congrArg List.length q) (by decide)
theorem own_psD {k v ch : Int32} (h : (k = (0 : Int32) ∧ ch = (68 : Int32)) ∨ (k = (1 : Int32) ∧ ch = (101 : Int32)) ∨ (k = (2 : Int32) ∧ ch = (118 : Int32)) ∨ (k = (3 : Int32) ∧ ch = (101 : Int32)) ∨ (k = (4 : Int32) ∧ ch = (108 : Int32)) ∨ (k = (5 : Int32) ∧ ch = (111 : Int32)) ∨ (k = (6 : Int32) ∧ ch = (112 : Int32)) ∨ (k = (7 : Int32) ∧ ch = (109 : Int32)) ∨ (k = (8 : Int32) ∧ ch = (101 : Int32)) ∨ (k = (9 : Int32) ∧ ch = (110 : Int32)) ∨ (k = (10 : Int32) ∧ ch = (116 : Int32))) (e : v = ch) : ([(68 : Int32), (101 : Int32), (118 : Int32), (101 : Int32), (108 : Int32), (111 : Int32), (112 : Int32), (109 : Int32), (101 : Int32), (110 : Int32), (116 : Int32)] : List Int32) = ([(own_at (0 : Int32) k v (68 : Int32)), (own_at (1 : Int32) k v (101 : Int32)), (own_at (2 : Int32) k v (118 : Int32)), (own_at (3 : Int32) k v (101 : Int32)), (own_at (4 : Int32) k v (108 : Int32)), (own_at (5 : Int32) k v (111 : Int32)), (own_at (6 : Int32) k v (112 : Int32)), (own_at (7 : Int32) k v (109 : Int32)), (own_at (8 : Int32) k v (101 : Int32)), (own_at (9 : Int32) k v (110 : Int32)), (own_at (10 : Int32) k v (116 : Int32))] : List Int32) := by
  rcases h with ⟨rfl, rfl⟩ | ⟨rfl, rfl⟩ | ⟨rfl, rfl⟩ | ⟨rfl, rfl⟩ | ⟨rfl, rfl⟩ | ⟨rfl, rfl⟩ | ⟨rfl, rfl⟩ | ⟨rfl, rfl⟩ | ⟨rfl, rfl⟩ | ⟨rfl, rfl⟩ | ⟨rfl, rfl⟩ <;> subst e <;> rfl
theorem own_ngD {k v ch : Int32} (h : (k = (0 : Int32) ∧ ch = (68 : Int32)) ∨ (k = (1 : Int32) ∧ ch = (101 : Int32)) ∨ (k = (2 : Int32) ∧ ch = (118 : Int32)) ∨ (k = (3 : Int32) ∧ ch = (101 : Int32)) ∨ (k = (4 : Int32) ∧ ch = (108 : Int32)) ∨ (k = (5 : Int32) ∧ ch = (111 : Int32)) ∨ (k = (6 : Int32) ∧ ch = (112 : Int32)) ∨ (k = (7 : Int32) ∧ ch = (109 : Int32)) ∨ (k = (8 : Int32) ∧ ch = (101 : Int32)) ∨ (k = (9 : Int32) ∧ ch = (110 : Int32)) ∨ (k = (10 : Int32) ∧ ch = (116 : Int32))) (e : ¬ (v = ch)) : ¬ (([(68 : Int32), (101 : Int32), (118 : Int32), (101 : Int32), (108 : Int32), (111 : Int32), (112 : Int32), (109 : Int32), (101 : Int32), (110 : Int32), (116 : Int32)] : List Int32) = ([(own_at (0 : Int32) k v (68 : Int32)), (own_at (1 : Int32) k v (101 : Int32)), (own_at (2 : Int32) k v (118 : Int32)), (own_at (3 : Int32) k v (101 : Int32)), (own_at (4 : Int32) k v (108 : Int32)), (own_at (5 : Int32) k v (111 : Int32)), (own_at (6 : Int32) k v (112 : Int32)), (own_at (7 : Int32) k v (109 : Int32)), (own_at (8 : Int32) k v (101 : Int32)), (own_at (9 : Int32) k v (110 : Int32)), (own_at (10 : Int32) k v (116 : Int32))] : List Int32)) := by
  rcases h with ⟨rfl, rfl⟩ | ⟨rfl, rfl⟩ | ⟨rfl, rfl⟩ | ⟨rfl, rfl⟩ | ⟨rfl, rfl⟩ | ⟨rfl, rfl⟩ | ⟨rfl, rfl⟩ | ⟨rfl, rfl⟩ | ⟨rfl, rfl⟩ | ⟨rfl, rfl⟩ | ⟨rfl, rfl⟩
  · exact fun q => e (show v = (68 : Int32) from (congrArg (fun l : List Int32 => l.getD 0 0) q).symm)
  · exact fun q => e (show v = (101 : Int32) from (congrArg (fun l : List Int32 => l.getD 1 0) q).symm)
  · exact fun q => e (show v = (118 : Int32) from (congrArg (fun l : List Int32 => l.getD 2 0) q).symm)
  · exact fun q => e (show v = (101 : Int32) from (congrArg (fun l : List Int32 => l.getD 3 0) q).symm)
  · exact fun q => e (show v = (108 : Int32) from (congrArg (fun l : List Int32 => l.getD 4 0) q).symm)
  · exact fun q => e (show v = (111 : Int32) from (congrArg (fun l : List Int32 => l.getD 5 0) q).symm)
  · exact fun q => e (show v = (112 : Int32) from (congrArg (fun l : List Int32 => l.getD 6 0) q).symm)
  · exact fun q => e (show v = (109 : Int32) from (congrArg (fun l : List Int32 => l.getD 7 0) q).symm)
  · exact fun q => e (show v = (101 : Int32) from (congrArg (fun l : List Int32 => l.getD 8 0) q).symm)
  · exact fun q => e (show v = (110 : Int32) from (congrArg (fun l : List Int32 => l.getD 9 0) q).symm)
  · exact fun q => e (show v = (116 : Int32) from (congrArg (fun l : List Int32 => l.getD 10 0) q).symm)
theorem own_flD {k v : Int32} (h : (k = (0 : Int32) ∧ v = (100 : Int32)) ∨ (k = (1 : Int32) ∧ v = (69 : Int32)) ∨ (k = (2 : Int32) ∧ v = (86 : Int32)) ∨ (k = (3 : Int32) ∧ v = (69 : Int32)) ∨ (k = (4 : Int32) ∧ v = (76 : Int32)) ∨ (k = (5 : Int32) ∧ v = (79 : Int32)) ∨ (k = (6 : Int32) ∧ v = (80 : Int32)) ∨ (k = (7 : Int32) ∧ v = (77 : Int32)) ∨ (k = (8 : Int32) ∧ v = (69 : Int32)) ∨ (k = (9 : Int32) ∧ v = (78 : Int32)) ∨ (k = (10 : Int32) ∧ v = (84 : Int32))) : ¬ (([(68 : Int32), (101 : Int32), (118 : Int32), (101 : Int32), (108 : Int32), (111 : Int32), (112 : Int32), (109 : Int32), (101 : Int32), (110 : Int32), (116 : Int32)] : List Int32) = ([(own_at (0 : Int32) k v (68 : Int32)), (own_at (1 : Int32) k v (101 : Int32)), (own_at (2 : Int32) k v (118 : Int32)), (own_at (3 : Int32) k v (101 : Int32)), (own_at (4 : Int32) k v (108 : Int32)), (own_at (5 : Int32) k v (111 : Int32)), (own_at (6 : Int32) k v (112 : Int32)), (own_at (7 : Int32) k v (109 : Int32)), (own_at (8 : Int32) k v (101 : Int32)), (own_at (9 : Int32) k v (110 : Int32)), (own_at (10 : Int32) k v (116 : Int32))] : List Int32)) := by
  rcases h with ⟨rfl, rfl⟩ | ⟨rfl, rfl⟩ | ⟨rfl, rfl⟩ | ⟨rfl, rfl⟩ | ⟨rfl, rfl⟩ | ⟨rfl, rfl⟩ | ⟨rfl, rfl⟩ | ⟨rfl, rfl⟩ | ⟨rfl, rfl⟩ | ⟨rfl, rfl⟩ | ⟨rfl, rfl⟩
  · exact fun q => absurd (show (68 : Int32) = (100 : Int32) from congrArg (fun l : List Int32 => l.getD 0 0) q) (by decide)
  · exact fun q => absurd (show (101 : Int32) = (69 : Int32) from congrArg (fun l : List Int32 => l.getD 1 0) q) (by decide)
  · exact fun q => absurd (show (118 : Int32) = (86 : Int32) from congrArg (fun l : List Int32 => l.getD 2 0) q) (by decide)
  · exact fun q => absurd (show (101 : Int32) = (69 : Int32) from congrArg (fun l : List Int32 => l.getD 3 0) q) (by decide)
  · exact fun q => absurd (show (108 : Int32) = (76 : Int32) from congrArg (fun l : List Int32 => l.getD 4 0) q) (by decide)
  · exact fun q => absurd (show (111 : Int32) = (79 : Int32) from congrArg (fun l : List Int32 => l.getD 5 0) q) (by decide)
  · exact fun q => absurd (show (112 : Int32) = (80 : Int32) from congrArg (fun l : List Int32 => l.getD 6 0) q) (by decide)
  · exact fun q => absurd (show (109 : Int32) = (77 : Int32) from congrArg (fun l : List Int32 => l.getD 7 0) q) (by decide)
  · exact fun q => absurd (show (101 : Int32) = (69 : Int32) from congrArg (fun l : List Int32 => l.getD 8 0) q) (by decide)
  · exact fun q => absurd (show (110 : Int32) = (78 : Int32) from congrArg (fun l : List Int32 => l.getD 9 0) q) (by decide)
  · exact fun q => absurd (show (116 : Int32) = (84 : Int32) from congrArg (fun l : List Int32 => l.getD 10 0) q) (by decide)
theorem own_frD {k v : Int32} (h : (k = (0 : Int32) ∧ v = (100 : Int32)) ∨ (k = (1 : Int32) ∧ v = (69 : Int32)) ∨ (k = (2 : Int32) ∧ v = (86 : Int32)) ∨ (k = (3 : Int32) ∧ v = (69 : Int32)) ∨ (k = (4 : Int32) ∧ v = (76 : Int32)) ∨ (k = (5 : Int32) ∧ v = (79 : Int32)) ∨ (k = (6 : Int32) ∧ v = (80 : Int32)) ∨ (k = (7 : Int32) ∧ v = (77 : Int32)) ∨ (k = (8 : Int32) ∧ v = (69 : Int32)) ∨ (k = (9 : Int32) ∧ v = (78 : Int32)) ∨ (k = (10 : Int32) ∧ v = (84 : Int32))) : ¬ v < 0 ∧ ¬ (255 : Int32) < v := by
  rcases h with ⟨rfl, rfl⟩ | ⟨rfl, rfl⟩ | ⟨rfl, rfl⟩ | ⟨rfl, rfl⟩ | ⟨rfl, rfl⟩ | ⟨rfl, rfl⟩ | ⟨rfl, rfl⟩ | ⟨rfl, rfl⟩ | ⟨rfl, rfl⟩ | ⟨rfl, rfl⟩ | ⟨rfl, rfl⟩ <;> decide
theorem own_eqR {s : State} {args : Array Value} {t t' : Term} {b : Addr} (ev : t'.eval args s none [] s = some (.ref b)) (h : (Cond.eq t t').value args s none s [] = some true) : t.eval args s none [] s = some (.ref b) := by
  cases hv : t.eval args s none [] s with
  | none => simp [Cond.value, hv] at h
  | some v => cases v <;> first | (simp [Cond.value, hv, ev] at h; subst h; rfl) | (exfalso; simp [Cond.value, hv, ev] at h; done)

theorem own_pn0 : plainName "com/example/tallowlark/tallowlark/server/StageFromArgumentPinLaw" = true := by first | (simp [plainName, overriddenIn]; done) | decide +kernel
theorem own_d0_0 : decode method_3_code 0 = .ok (.iload_n 1, 1) := by decide +kernel
theorem own_d0_1 : decode method_3_code 1 = .ok (.aload_n 0, 1) := by decide +kernel
theorem own_pd0 : parseMethodDescriptor "()I" = some ⟨[], some .int⟩ := by decide +kernel
theorem own_d0_2 : decode method_3_code 2 = .ok (.invokevirtual 20, 3) := by decide +kernel
theorem own_d0_5 : decode method_3_code 5 = .ok (.if_icmp .ge 18, 3) := by decide +kernel
theorem own_d0_8 : decode method_3_code 8 = .ok (.iload_n 1, 1) := by decide +kernel
theorem own_d0_9 : decode method_3_code 9 = .ok (.iload_n 2, 1) := by decide +kernel
theorem own_d0_10 : decode method_3_code 10 = .ok (.if_icmp .ne 7, 3) := by decide +kernel
theorem own_d0_13 : decode method_3_code 13 = .ok (.iload_n 3, 1) := by decide +kernel
theorem own_d0_14 : decode method_3_code 14 = .ok (.goto 8, 3) := by decide +kernel
theorem own_d0_22 : decode method_3_code 22 = .ok (.ireturn, 1) := by decide +kernel
theorem own_d0_17 : decode method_3_code 17 = .ok (.aload_n 0, 1) := by decide +kernel
theorem own_d0_18 : decode method_3_code 18 = .ok (.iload_n 1, 1) := by decide +kernel
theorem own_pd1 : parseMethodDescriptor "(I)C" = some ⟨[.int], some .char⟩ := by decide +kernel
theorem own_d0_19 : decode method_3_code 19 = .ok (.invokevirtual 33, 3) := by decide +kernel
theorem own_d0_23 : decode method_3_code 23 = .ok (.iload_n 3, 1) := by decide +kernel
theorem own_d0_24 : decode method_3_code 24 = .ok (.ireturn, 1) := by decide +kernel
theorem own_d1_0 : decode method_4_code 0 = .ok (.iload_n 1, 1) := by decide +kernel
theorem own_d1_1 : decode method_4_code 1 = .ok (.bipush 9, 2) := by decide +kernel
theorem own_d1_3 : decode method_4_code 3 = .ok (.if_icmp .ne 124, 3) := by decide +kernel
theorem own_d1_6 : decode method_4_code 6 = .ok (.bipush 9, 2) := by decide +kernel
theorem own_d1_8 : decode method_4_code 8 = .ok (.newarray .char, 2) := by decide +kernel
theorem own_d1_10 : decode method_4_code 10 = .ok (.astore 4, 2) := by decide +kernel
theorem own_d1_12 : decode method_4_code 12 = .ok (.aload 4, 2) := by decide +kernel
theorem own_d1_14 : decode method_4_code 14 = .ok (.iconst 0, 1) := by decide +kernel
theorem own_d1_15 : decode method_4_code 15 = .ok (.aload_n 0, 1) := by decide +kernel
theorem own_d1_16 : decode method_4_code 16 = .ok (.iconst 0, 1) := by decide +kernel
theorem own_d1_17 : decode method_4_code 17 = .ok (.iload_n 2, 1) := by decide +kernel
theorem own_d1_18 : decode method_4_code 18 = .ok (.iload_n 3, 1) := by decide +kernel
theorem own_pd2 : parseMethodDescriptor "(Ljava/lang/String;IIC)C" = some ⟨[(.object "java/lang/String"), .int, .int, .char], some .char⟩ := by decide +kernel
theorem own_d1_19 : decode method_4_code 19 = .ok (.invokestatic 43, 3) := by decide +kernel
theorem own_d1_22 : decode method_4_code 22 = .ok (.castore, 1) := by decide +kernel
theorem own_d1_23 : decode method_4_code 23 = .ok (.aload 4, 2) := by decide +kernel
theorem own_d1_25 : decode method_4_code 25 = .ok (.iconst 1, 1) := by decide +kernel
theorem own_d1_26 : decode method_4_code 26 = .ok (.aload_n 0, 1) := by decide +kernel
theorem own_d1_27 : decode method_4_code 27 = .ok (.iconst 1, 1) := by decide +kernel
theorem own_d1_28 : decode method_4_code 28 = .ok (.iload_n 2, 1) := by decide +kernel
theorem own_d1_29 : decode method_4_code 29 = .ok (.iload_n 3, 1) := by decide +kernel
theorem own_d1_30 : decode method_4_code 30 = .ok (.invokestatic 43, 3) := by decide +kernel
theorem own_d1_33 : decode method_4_code 33 = .ok (.castore, 1) := by decide +kernel
theorem own_d1_34 : decode method_4_code 34 = .ok (.aload 4, 2) := by decide +kernel
theorem own_d1_36 : decode method_4_code 36 = .ok (.iconst 2, 1) := by decide +kernel
theorem own_d1_37 : decode method_4_code 37 = .ok (.aload_n 0, 1) := by decide +kernel
theorem own_d1_38 : decode method_4_code 38 = .ok (.iconst 2, 1) := by decide +kernel
theorem own_d1_39 : decode method_4_code 39 = .ok (.iload_n 2, 1) := by decide +kernel
theorem own_d1_40 : decode method_4_code 40 = .ok (.iload_n 3, 1) := by decide +kernel
theorem own_d1_41 : decode method_4_code 41 = .ok (.invokestatic 43, 3) := by decide +kernel
theorem own_d1_44 : decode method_4_code 44 = .ok (.castore, 1) := by decide +kernel
theorem own_d1_45 : decode method_4_code 45 = .ok (.aload 4, 2) := by decide +kernel
theorem own_d1_47 : decode method_4_code 47 = .ok (.iconst 3, 1) := by decide +kernel
theorem own_d1_48 : decode method_4_code 48 = .ok (.aload_n 0, 1) := by decide +kernel
theorem own_d1_49 : decode method_4_code 49 = .ok (.iconst 3, 1) := by decide +kernel
theorem own_d1_50 : decode method_4_code 50 = .ok (.iload_n 2, 1) := by decide +kernel
theorem own_d1_51 : decode method_4_code 51 = .ok (.iload_n 3, 1) := by decide +kernel
theorem own_d1_52 : decode method_4_code 52 = .ok (.invokestatic 43, 3) := by decide +kernel
theorem own_d1_55 : decode method_4_code 55 = .ok (.castore, 1) := by decide +kernel
theorem own_d1_56 : decode method_4_code 56 = .ok (.aload 4, 2) := by decide +kernel
theorem own_d1_58 : decode method_4_code 58 = .ok (.iconst 4, 1) := by decide +kernel
theorem own_d1_59 : decode method_4_code 59 = .ok (.aload_n 0, 1) := by decide +kernel
theorem own_d1_60 : decode method_4_code 60 = .ok (.iconst 4, 1) := by decide +kernel
theorem own_d1_61 : decode method_4_code 61 = .ok (.iload_n 2, 1) := by decide +kernel
theorem own_d1_62 : decode method_4_code 62 = .ok (.iload_n 3, 1) := by decide +kernel
theorem own_d1_63 : decode method_4_code 63 = .ok (.invokestatic 43, 3) := by decide +kernel
theorem own_d1_66 : decode method_4_code 66 = .ok (.castore, 1) := by decide +kernel
theorem own_d1_67 : decode method_4_code 67 = .ok (.aload 4, 2) := by decide +kernel
theorem own_d1_69 : decode method_4_code 69 = .ok (.iconst 5, 1) := by decide +kernel
theorem own_d1_70 : decode method_4_code 70 = .ok (.aload_n 0, 1) := by decide +kernel
theorem own_d1_71 : decode method_4_code 71 = .ok (.iconst 5, 1) := by decide +kernel
theorem own_d1_72 : decode method_4_code 72 = .ok (.iload_n 2, 1) := by decide +kernel
theorem own_d1_73 : decode method_4_code 73 = .ok (.iload_n 3, 1) := by decide +kernel
theorem own_d1_74 : decode method_4_code 74 = .ok (.invokestatic 43, 3) := by decide +kernel
theorem own_d1_77 : decode method_4_code 77 = .ok (.castore, 1) := by decide +kernel
theorem own_d1_78 : decode method_4_code 78 = .ok (.aload 4, 2) := by decide +kernel
theorem own_d1_80 : decode method_4_code 80 = .ok (.bipush 6, 2) := by decide +kernel
theorem own_d1_82 : decode method_4_code 82 = .ok (.aload_n 0, 1) := by decide +kernel
theorem own_d1_83 : decode method_4_code 83 = .ok (.bipush 6, 2) := by decide +kernel
theorem own_d1_85 : decode method_4_code 85 = .ok (.iload_n 2, 1) := by decide +kernel
theorem own_d1_86 : decode method_4_code 86 = .ok (.iload_n 3, 1) := by decide +kernel
theorem own_d1_87 : decode method_4_code 87 = .ok (.invokestatic 43, 3) := by decide +kernel
theorem own_d1_90 : decode method_4_code 90 = .ok (.castore, 1) := by decide +kernel
theorem own_d1_91 : decode method_4_code 91 = .ok (.aload 4, 2) := by decide +kernel
theorem own_d1_93 : decode method_4_code 93 = .ok (.bipush 7, 2) := by decide +kernel
theorem own_d1_95 : decode method_4_code 95 = .ok (.aload_n 0, 1) := by decide +kernel
theorem own_d1_96 : decode method_4_code 96 = .ok (.bipush 7, 2) := by decide +kernel
theorem own_d1_98 : decode method_4_code 98 = .ok (.iload_n 2, 1) := by decide +kernel
theorem own_d1_99 : decode method_4_code 99 = .ok (.iload_n 3, 1) := by decide +kernel
theorem own_d1_100 : decode method_4_code 100 = .ok (.invokestatic 43, 3) := by decide +kernel
theorem own_d1_103 : decode method_4_code 103 = .ok (.castore, 1) := by decide +kernel
theorem own_d1_104 : decode method_4_code 104 = .ok (.aload 4, 2) := by decide +kernel
theorem own_d1_106 : decode method_4_code 106 = .ok (.bipush 8, 2) := by decide +kernel
theorem own_d1_108 : decode method_4_code 108 = .ok (.aload_n 0, 1) := by decide +kernel
theorem own_d1_109 : decode method_4_code 109 = .ok (.bipush 8, 2) := by decide +kernel
theorem own_d1_111 : decode method_4_code 111 = .ok (.iload_n 2, 1) := by decide +kernel
theorem own_d1_112 : decode method_4_code 112 = .ok (.iload_n 3, 1) := by decide +kernel
theorem own_d1_113 : decode method_4_code 113 = .ok (.invokestatic 43, 3) := by decide +kernel
theorem own_d1_116 : decode method_4_code 116 = .ok (.castore, 1) := by decide +kernel
theorem own_d1_117 : decode method_4_code 117 = .ok (.new 21, 3) := by decide +kernel
theorem own_d1_120 : decode method_4_code 120 = .ok (.dup, 1) := by decide +kernel
theorem own_d1_121 : decode method_4_code 121 = .ok (.aload 4, 2) := by decide +kernel
theorem own_pd3 : parseMethodDescriptor "([C)V" = some ⟨[(.array .char)], none⟩ := by decide +kernel
theorem own_d1_123 : decode method_4_code 123 = .ok (.invokespecial 47, 3) := by decide +kernel
theorem own_d1_126 : decode method_4_code 126 = .ok (.areturn, 1) := by decide +kernel
theorem own_d1_127 : decode method_4_code 127 = .ok (.iload_n 1, 1) := by decide +kernel
theorem own_d1_128 : decode method_4_code 128 = .ok (.bipush 10, 2) := by decide +kernel
theorem own_d1_130 : decode method_4_code 130 = .ok (.if_icmp .ne 137, 3) := by decide +kernel
theorem own_d1_133 : decode method_4_code 133 = .ok (.bipush 10, 2) := by decide +kernel
theorem own_d1_135 : decode method_4_code 135 = .ok (.newarray .char, 2) := by decide +kernel
theorem own_d1_137 : decode method_4_code 137 = .ok (.astore 4, 2) := by decide +kernel
theorem own_d1_139 : decode method_4_code 139 = .ok (.aload 4, 2) := by decide +kernel
theorem own_d1_141 : decode method_4_code 141 = .ok (.iconst 0, 1) := by decide +kernel
theorem own_d1_142 : decode method_4_code 142 = .ok (.aload_n 0, 1) := by decide +kernel
theorem own_d1_143 : decode method_4_code 143 = .ok (.iconst 0, 1) := by decide +kernel
theorem own_d1_144 : decode method_4_code 144 = .ok (.iload_n 2, 1) := by decide +kernel
theorem own_d1_145 : decode method_4_code 145 = .ok (.iload_n 3, 1) := by decide +kernel
theorem own_d1_146 : decode method_4_code 146 = .ok (.invokestatic 43, 3) := by decide +kernel
theorem own_d1_149 : decode method_4_code 149 = .ok (.castore, 1) := by decide +kernel
theorem own_d1_150 : decode method_4_code 150 = .ok (.aload 4, 2) := by decide +kernel
theorem own_d1_152 : decode method_4_code 152 = .ok (.iconst 1, 1) := by decide +kernel
theorem own_d1_153 : decode method_4_code 153 = .ok (.aload_n 0, 1) := by decide +kernel
theorem own_d1_154 : decode method_4_code 154 = .ok (.iconst 1, 1) := by decide +kernel
theorem own_d1_155 : decode method_4_code 155 = .ok (.iload_n 2, 1) := by decide +kernel
theorem own_d1_156 : decode method_4_code 156 = .ok (.iload_n 3, 1) := by decide +kernel
theorem own_d1_157 : decode method_4_code 157 = .ok (.invokestatic 43, 3) := by decide +kernel
theorem own_d1_160 : decode method_4_code 160 = .ok (.castore, 1) := by decide +kernel
theorem own_d1_161 : decode method_4_code 161 = .ok (.aload 4, 2) := by decide +kernel
theorem own_d1_163 : decode method_4_code 163 = .ok (.iconst 2, 1) := by decide +kernel
theorem own_d1_164 : decode method_4_code 164 = .ok (.aload_n 0, 1) := by decide +kernel
theorem own_d1_165 : decode method_4_code 165 = .ok (.iconst 2, 1) := by decide +kernel
theorem own_d1_166 : decode method_4_code 166 = .ok (.iload_n 2, 1) := by decide +kernel
theorem own_d1_167 : decode method_4_code 167 = .ok (.iload_n 3, 1) := by decide +kernel
theorem own_d1_168 : decode method_4_code 168 = .ok (.invokestatic 43, 3) := by decide +kernel
theorem own_d1_171 : decode method_4_code 171 = .ok (.castore, 1) := by decide +kernel
theorem own_d1_172 : decode method_4_code 172 = .ok (.aload 4, 2) := by decide +kernel
theorem own_d1_174 : decode method_4_code 174 = .ok (.iconst 3, 1) := by decide +kernel
theorem own_d1_175 : decode method_4_code 175 = .ok (.aload_n 0, 1) := by decide +kernel
theorem own_d1_176 : decode method_4_code 176 = .ok (.iconst 3, 1) := by decide +kernel
theorem own_d1_177 : decode method_4_code 177 = .ok (.iload_n 2, 1) := by decide +kernel
theorem own_d1_178 : decode method_4_code 178 = .ok (.iload_n 3, 1) := by decide +kernel
theorem own_d1_179 : decode method_4_code 179 = .ok (.invokestatic 43, 3) := by decide +kernel
theorem own_d1_182 : decode method_4_code 182 = .ok (.castore, 1) := by decide +kernel
theorem own_d1_183 : decode method_4_code 183 = .ok (.aload 4, 2) := by decide +kernel
theorem own_d1_185 : decode method_4_code 185 = .ok (.iconst 4, 1) := by decide +kernel
theorem own_d1_186 : decode method_4_code 186 = .ok (.aload_n 0, 1) := by decide +kernel
theorem own_d1_187 : decode method_4_code 187 = .ok (.iconst 4, 1) := by decide +kernel
theorem own_d1_188 : decode method_4_code 188 = .ok (.iload_n 2, 1) := by decide +kernel
theorem own_d1_189 : decode method_4_code 189 = .ok (.iload_n 3, 1) := by decide +kernel
theorem own_d1_190 : decode method_4_code 190 = .ok (.invokestatic 43, 3) := by decide +kernel
theorem own_d1_193 : decode method_4_code 193 = .ok (.castore, 1) := by decide +kernel
theorem own_d1_194 : decode method_4_code 194 = .ok (.aload 4, 2) := by decide +kernel
theorem own_d1_196 : decode method_4_code 196 = .ok (.iconst 5, 1) := by decide +kernel
theorem own_d1_197 : decode method_4_code 197 = .ok (.aload_n 0, 1) := by decide +kernel
theorem own_d1_198 : decode method_4_code 198 = .ok (.iconst 5, 1) := by decide +kernel
theorem own_d1_199 : decode method_4_code 199 = .ok (.iload_n 2, 1) := by decide +kernel
theorem own_d1_200 : decode method_4_code 200 = .ok (.iload_n 3, 1) := by decide +kernel
theorem own_d1_201 : decode method_4_code 201 = .ok (.invokestatic 43, 3) := by decide +kernel
theorem own_d1_204 : decode method_4_code 204 = .ok (.castore, 1) := by decide +kernel
theorem own_d1_205 : decode method_4_code 205 = .ok (.aload 4, 2) := by decide +kernel
theorem own_d1_207 : decode method_4_code 207 = .ok (.bipush 6, 2) := by decide +kernel
theorem own_d1_209 : decode method_4_code 209 = .ok (.aload_n 0, 1) := by decide +kernel
theorem own_d1_210 : decode method_4_code 210 = .ok (.bipush 6, 2) := by decide +kernel
theorem own_d1_212 : decode method_4_code 212 = .ok (.iload_n 2, 1) := by decide +kernel
theorem own_d1_213 : decode method_4_code 213 = .ok (.iload_n 3, 1) := by decide +kernel
theorem own_d1_214 : decode method_4_code 214 = .ok (.invokestatic 43, 3) := by decide +kernel
theorem own_d1_217 : decode method_4_code 217 = .ok (.castore, 1) := by decide +kernel
theorem own_d1_218 : decode method_4_code 218 = .ok (.aload 4, 2) := by decide +kernel
theorem own_d1_220 : decode method_4_code 220 = .ok (.bipush 7, 2) := by decide +kernel
theorem own_d1_222 : decode method_4_code 222 = .ok (.aload_n 0, 1) := by decide +kernel
theorem own_d1_223 : decode method_4_code 223 = .ok (.bipush 7, 2) := by decide +kernel
theorem own_d1_225 : decode method_4_code 225 = .ok (.iload_n 2, 1) := by decide +kernel
theorem own_d1_226 : decode method_4_code 226 = .ok (.iload_n 3, 1) := by decide +kernel
theorem own_d1_227 : decode method_4_code 227 = .ok (.invokestatic 43, 3) := by decide +kernel
theorem own_d1_230 : decode method_4_code 230 = .ok (.castore, 1) := by decide +kernel
theorem own_d1_231 : decode method_4_code 231 = .ok (.aload 4, 2) := by decide +kernel
theorem own_d1_233 : decode method_4_code 233 = .ok (.bipush 8, 2) := by decide +kernel
theorem own_d1_235 : decode method_4_code 235 = .ok (.aload_n 0, 1) := by decide +kernel
theorem own_d1_236 : decode method_4_code 236 = .ok (.bipush 8, 2) := by decide +kernel
theorem own_d1_238 : decode method_4_code 238 = .ok (.iload_n 2, 1) := by decide +kernel
theorem own_d1_239 : decode method_4_code 239 = .ok (.iload_n 3, 1) := by decide +kernel
theorem own_d1_240 : decode method_4_code 240 = .ok (.invokestatic 43, 3) := by decide +kernel
theorem own_d1_243 : decode method_4_code 243 = .ok (.castore, 1) := by decide +kernel
theorem own_d1_244 : decode method_4_code 244 = .ok (.aload 4, 2) := by decide +kernel
theorem own_d1_246 : decode method_4_code 246 = .ok (.bipush 9, 2) := by decide +kernel
theorem own_d1_248 : decode method_4_code 248 = .ok (.aload_n 0, 1) := by decide +kernel
theorem own_d1_249 : decode method_4_code 249 = .ok (.bipush 9, 2) := by decide +kernel
theorem own_d1_251 : decode method_4_code 251 = .ok (.iload_n 2, 1) := by decide +kernel
theorem own_d1_252 : decode method_4_code 252 = .ok (.iload_n 3, 1) := by decide +kernel
theorem own_d1_253 : decode method_4_code 253 = .ok (.invokestatic 43, 3) := by decide +kernel
theorem own_d1_256 : decode method_4_code 256 = .ok (.castore, 1) := by decide +kernel
theorem own_d1_257 : decode method_4_code 257 = .ok (.new 21, 3) := by decide +kernel
theorem own_d1_260 : decode method_4_code 260 = .ok (.dup, 1) := by decide +kernel
theorem own_d1_261 : decode method_4_code 261 = .ok (.aload 4, 2) := by decide +kernel
theorem own_d1_263 : decode method_4_code 263 = .ok (.invokespecial 47, 3) := by decide +kernel
theorem own_d1_266 : decode method_4_code 266 = .ok (.areturn, 1) := by decide +kernel
theorem own_d1_267 : decode method_4_code 267 = .ok (.iload_n 1, 1) := by decide +kernel
theorem own_d1_268 : decode method_4_code 268 = .ok (.bipush 11, 2) := by decide +kernel
theorem own_d1_270 : decode method_4_code 270 = .ok (.if_icmp .ne 150, 3) := by decide +kernel
theorem own_d1_273 : decode method_4_code 273 = .ok (.bipush 11, 2) := by decide +kernel
theorem own_d1_275 : decode method_4_code 275 = .ok (.newarray .char, 2) := by decide +kernel
theorem own_d1_277 : decode method_4_code 277 = .ok (.astore 4, 2) := by decide +kernel
theorem own_d1_279 : decode method_4_code 279 = .ok (.aload 4, 2) := by decide +kernel
theorem own_d1_281 : decode method_4_code 281 = .ok (.iconst 0, 1) := by decide +kernel
theorem own_d1_282 : decode method_4_code 282 = .ok (.aload_n 0, 1) := by decide +kernel
theorem own_d1_283 : decode method_4_code 283 = .ok (.iconst 0, 1) := by decide +kernel
theorem own_d1_284 : decode method_4_code 284 = .ok (.iload_n 2, 1) := by decide +kernel
theorem own_d1_285 : decode method_4_code 285 = .ok (.iload_n 3, 1) := by decide +kernel
theorem own_d1_286 : decode method_4_code 286 = .ok (.invokestatic 43, 3) := by decide +kernel
theorem own_d1_289 : decode method_4_code 289 = .ok (.castore, 1) := by decide +kernel
theorem own_d1_290 : decode method_4_code 290 = .ok (.aload 4, 2) := by decide +kernel
theorem own_d1_292 : decode method_4_code 292 = .ok (.iconst 1, 1) := by decide +kernel
theorem own_d1_293 : decode method_4_code 293 = .ok (.aload_n 0, 1) := by decide +kernel
theorem own_d1_294 : decode method_4_code 294 = .ok (.iconst 1, 1) := by decide +kernel
theorem own_d1_295 : decode method_4_code 295 = .ok (.iload_n 2, 1) := by decide +kernel
theorem own_d1_296 : decode method_4_code 296 = .ok (.iload_n 3, 1) := by decide +kernel
theorem own_d1_297 : decode method_4_code 297 = .ok (.invokestatic 43, 3) := by decide +kernel
theorem own_d1_300 : decode method_4_code 300 = .ok (.castore, 1) := by decide +kernel
theorem own_d1_301 : decode method_4_code 301 = .ok (.aload 4, 2) := by decide +kernel
theorem own_d1_303 : decode method_4_code 303 = .ok (.iconst 2, 1) := by decide +kernel
theorem own_d1_304 : decode method_4_code 304 = .ok (.aload_n 0, 1) := by decide +kernel
theorem own_d1_305 : decode method_4_code 305 = .ok (.iconst 2, 1) := by decide +kernel
theorem own_d1_306 : decode method_4_code 306 = .ok (.iload_n 2, 1) := by decide +kernel
theorem own_d1_307 : decode method_4_code 307 = .ok (.iload_n 3, 1) := by decide +kernel
theorem own_d1_308 : decode method_4_code 308 = .ok (.invokestatic 43, 3) := by decide +kernel
theorem own_d1_311 : decode method_4_code 311 = .ok (.castore, 1) := by decide +kernel
theorem own_d1_312 : decode method_4_code 312 = .ok (.aload 4, 2) := by decide +kernel
theorem own_d1_314 : decode method_4_code 314 = .ok (.iconst 3, 1) := by decide +kernel
theorem own_d1_315 : decode method_4_code 315 = .ok (.aload_n 0, 1) := by decide +kernel
theorem own_d1_316 : decode method_4_code 316 = .ok (.iconst 3, 1) := by decide +kernel
theorem own_d1_317 : decode method_4_code 317 = .ok (.iload_n 2, 1) := by decide +kernel
theorem own_d1_318 : decode method_4_code 318 = .ok (.iload_n 3, 1) := by decide +kernel
theorem own_d1_319 : decode method_4_code 319 = .ok (.invokestatic 43, 3) := by decide +kernel
theorem own_d1_322 : decode method_4_code 322 = .ok (.castore, 1) := by decide +kernel
theorem own_d1_323 : decode method_4_code 323 = .ok (.aload 4, 2) := by decide +kernel
theorem own_d1_325 : decode method_4_code 325 = .ok (.iconst 4, 1) := by decide +kernel
theorem own_d1_326 : decode method_4_code 326 = .ok (.aload_n 0, 1) := by decide +kernel
theorem own_d1_327 : decode method_4_code 327 = .ok (.iconst 4, 1) := by decide +kernel
theorem own_d1_328 : decode method_4_code 328 = .ok (.iload_n 2, 1) := by decide +kernel
theorem own_d1_329 : decode method_4_code 329 = .ok (.iload_n 3, 1) := by decide +kernel
theorem own_d1_330 : decode method_4_code 330 = .ok (.invokestatic 43, 3) := by decide +kernel
theorem own_d1_333 : decode method_4_code 333 = .ok (.castore, 1) := by decide +kernel
theorem own_d1_334 : decode method_4_code 334 = .ok (.aload 4, 2) := by decide +kernel
theorem own_d1_336 : decode method_4_code 336 = .ok (.iconst 5, 1) := by decide +kernel
theorem own_d1_337 : decode method_4_code 337 = .ok (.aload_n 0, 1) := by decide +kernel
theorem own_d1_338 : decode method_4_code 338 = .ok (.iconst 5, 1) := by decide +kernel
theorem own_d1_339 : decode method_4_code 339 = .ok (.iload_n 2, 1) := by decide +kernel
theorem own_d1_340 : decode method_4_code 340 = .ok (.iload_n 3, 1) := by decide +kernel
theorem own_d1_341 : decode method_4_code 341 = .ok (.invokestatic 43, 3) := by decide +kernel
theorem own_d1_344 : decode method_4_code 344 = .ok (.castore, 1) := by decide +kernel
theorem own_d1_345 : decode method_4_code 345 = .ok (.aload 4, 2) := by decide +kernel
theorem own_d1_347 : decode method_4_code 347 = .ok (.bipush 6, 2) := by decide +kernel
theorem own_d1_349 : decode method_4_code 349 = .ok (.aload_n 0, 1) := by decide +kernel
theorem own_d1_350 : decode method_4_code 350 = .ok (.bipush 6, 2) := by decide +kernel
theorem own_d1_352 : decode method_4_code 352 = .ok (.iload_n 2, 1) := by decide +kernel
theorem own_d1_353 : decode method_4_code 353 = .ok (.iload_n 3, 1) := by decide +kernel
theorem own_d1_354 : decode method_4_code 354 = .ok (.invokestatic 43, 3) := by decide +kernel
theorem own_d1_357 : decode method_4_code 357 = .ok (.castore, 1) := by decide +kernel
theorem own_d1_358 : decode method_4_code 358 = .ok (.aload 4, 2) := by decide +kernel
theorem own_d1_360 : decode method_4_code 360 = .ok (.bipush 7, 2) := by decide +kernel
theorem own_d1_362 : decode method_4_code 362 = .ok (.aload_n 0, 1) := by decide +kernel
theorem own_d1_363 : decode method_4_code 363 = .ok (.bipush 7, 2) := by decide +kernel
theorem own_d1_365 : decode method_4_code 365 = .ok (.iload_n 2, 1) := by decide +kernel
theorem own_d1_366 : decode method_4_code 366 = .ok (.iload_n 3, 1) := by decide +kernel
theorem own_d1_367 : decode method_4_code 367 = .ok (.invokestatic 43, 3) := by decide +kernel
theorem own_d1_370 : decode method_4_code 370 = .ok (.castore, 1) := by decide +kernel
theorem own_d1_371 : decode method_4_code 371 = .ok (.aload 4, 2) := by decide +kernel
theorem own_d1_373 : decode method_4_code 373 = .ok (.bipush 8, 2) := by decide +kernel
theorem own_d1_375 : decode method_4_code 375 = .ok (.aload_n 0, 1) := by decide +kernel
theorem own_d1_376 : decode method_4_code 376 = .ok (.bipush 8, 2) := by decide +kernel
theorem own_d1_378 : decode method_4_code 378 = .ok (.iload_n 2, 1) := by decide +kernel
theorem own_d1_379 : decode method_4_code 379 = .ok (.iload_n 3, 1) := by decide +kernel
theorem own_d1_380 : decode method_4_code 380 = .ok (.invokestatic 43, 3) := by decide +kernel
theorem own_d1_383 : decode method_4_code 383 = .ok (.castore, 1) := by decide +kernel
theorem own_d1_384 : decode method_4_code 384 = .ok (.aload 4, 2) := by decide +kernel
theorem own_d1_386 : decode method_4_code 386 = .ok (.bipush 9, 2) := by decide +kernel
theorem own_d1_388 : decode method_4_code 388 = .ok (.aload_n 0, 1) := by decide +kernel
theorem own_d1_389 : decode method_4_code 389 = .ok (.bipush 9, 2) := by decide +kernel
theorem own_d1_391 : decode method_4_code 391 = .ok (.iload_n 2, 1) := by decide +kernel
theorem own_d1_392 : decode method_4_code 392 = .ok (.iload_n 3, 1) := by decide +kernel
theorem own_d1_393 : decode method_4_code 393 = .ok (.invokestatic 43, 3) := by decide +kernel
theorem own_d1_396 : decode method_4_code 396 = .ok (.castore, 1) := by decide +kernel
theorem own_d1_397 : decode method_4_code 397 = .ok (.aload 4, 2) := by decide +kernel
theorem own_d1_399 : decode method_4_code 399 = .ok (.bipush 10, 2) := by decide +kernel
theorem own_d1_401 : decode method_4_code 401 = .ok (.aload_n 0, 1) := by decide +kernel
theorem own_d1_402 : decode method_4_code 402 = .ok (.bipush 10, 2) := by decide +kernel
theorem own_d1_404 : decode method_4_code 404 = .ok (.iload_n 2, 1) := by decide +kernel
theorem own_d1_405 : decode method_4_code 405 = .ok (.iload_n 3, 1) := by decide +kernel
theorem own_d1_406 : decode method_4_code 406 = .ok (.invokestatic 43, 3) := by decide +kernel
theorem own_d1_409 : decode method_4_code 409 = .ok (.castore, 1) := by decide +kernel
theorem own_d1_410 : decode method_4_code 410 = .ok (.new 21, 3) := by decide +kernel
theorem own_d1_413 : decode method_4_code 413 = .ok (.dup, 1) := by decide +kernel
theorem own_d1_414 : decode method_4_code 414 = .ok (.aload 4, 2) := by decide +kernel
theorem own_d1_416 : decode method_4_code 416 = .ok (.invokespecial 47, 3) := by decide +kernel
theorem own_d1_419 : decode method_4_code 419 = .ok (.areturn, 1) := by decide +kernel
theorem own_d1_420 : decode method_4_code 420 = .ok (.bipush 12, 2) := by decide +kernel
theorem own_d1_422 : decode method_4_code 422 = .ok (.newarray .char, 2) := by decide +kernel
theorem own_d1_424 : decode method_4_code 424 = .ok (.astore 4, 2) := by decide +kernel
theorem own_d1_426 : decode method_4_code 426 = .ok (.aload 4, 2) := by decide +kernel
theorem own_d1_428 : decode method_4_code 428 = .ok (.iconst 0, 1) := by decide +kernel
theorem own_d1_429 : decode method_4_code 429 = .ok (.aload_n 0, 1) := by decide +kernel
theorem own_d1_430 : decode method_4_code 430 = .ok (.iconst 0, 1) := by decide +kernel
theorem own_d1_431 : decode method_4_code 431 = .ok (.iload_n 2, 1) := by decide +kernel
theorem own_d1_432 : decode method_4_code 432 = .ok (.iload_n 3, 1) := by decide +kernel
theorem own_d1_433 : decode method_4_code 433 = .ok (.invokestatic 43, 3) := by decide +kernel
theorem own_d1_436 : decode method_4_code 436 = .ok (.castore, 1) := by decide +kernel
theorem own_d1_437 : decode method_4_code 437 = .ok (.aload 4, 2) := by decide +kernel
theorem own_d1_439 : decode method_4_code 439 = .ok (.iconst 1, 1) := by decide +kernel
theorem own_d1_440 : decode method_4_code 440 = .ok (.aload_n 0, 1) := by decide +kernel
theorem own_d1_441 : decode method_4_code 441 = .ok (.iconst 1, 1) := by decide +kernel
theorem own_d1_442 : decode method_4_code 442 = .ok (.iload_n 2, 1) := by decide +kernel
theorem own_d1_443 : decode method_4_code 443 = .ok (.iload_n 3, 1) := by decide +kernel
theorem own_d1_444 : decode method_4_code 444 = .ok (.invokestatic 43, 3) := by decide +kernel
theorem own_d1_447 : decode method_4_code 447 = .ok (.castore, 1) := by decide +kernel
theorem own_d1_448 : decode method_4_code 448 = .ok (.aload 4, 2) := by decide +kernel
theorem own_d1_450 : decode method_4_code 450 = .ok (.iconst 2, 1) := by decide +kernel
theorem own_d1_451 : decode method_4_code 451 = .ok (.aload_n 0, 1) := by decide +kernel
theorem own_d1_452 : decode method_4_code 452 = .ok (.iconst 2, 1) := by decide +kernel
theorem own_d1_453 : decode method_4_code 453 = .ok (.iload_n 2, 1) := by decide +kernel
theorem own_d1_454 : decode method_4_code 454 = .ok (.iload_n 3, 1) := by decide +kernel
theorem own_d1_455 : decode method_4_code 455 = .ok (.invokestatic 43, 3) := by decide +kernel
theorem own_d1_458 : decode method_4_code 458 = .ok (.castore, 1) := by decide +kernel
theorem own_d1_459 : decode method_4_code 459 = .ok (.aload 4, 2) := by decide +kernel
theorem own_d1_461 : decode method_4_code 461 = .ok (.iconst 3, 1) := by decide +kernel
theorem own_d1_462 : decode method_4_code 462 = .ok (.aload_n 0, 1) := by decide +kernel
theorem own_d1_463 : decode method_4_code 463 = .ok (.iconst 3, 1) := by decide +kernel
theorem own_d1_464 : decode method_4_code 464 = .ok (.iload_n 2, 1) := by decide +kernel
theorem own_d1_465 : decode method_4_code 465 = .ok (.iload_n 3, 1) := by decide +kernel
theorem own_d1_466 : decode method_4_code 466 = .ok (.invokestatic 43, 3) := by decide +kernel
theorem own_d1_469 : decode method_4_code 469 = .ok (.castore, 1) := by decide +kernel
theorem own_d1_470 : decode method_4_code 470 = .ok (.aload 4, 2) := by decide +kernel
theorem own_d1_472 : decode method_4_code 472 = .ok (.iconst 4, 1) := by decide +kernel
theorem own_d1_473 : decode method_4_code 473 = .ok (.aload_n 0, 1) := by decide +kernel
theorem own_d1_474 : decode method_4_code 474 = .ok (.iconst 4, 1) := by decide +kernel
theorem own_d1_475 : decode method_4_code 475 = .ok (.iload_n 2, 1) := by decide +kernel
theorem own_d1_476 : decode method_4_code 476 = .ok (.iload_n 3, 1) := by decide +kernel
theorem own_d1_477 : decode method_4_code 477 = .ok (.invokestatic 43, 3) := by decide +kernel
theorem own_d1_480 : decode method_4_code 480 = .ok (.castore, 1) := by decide +kernel
theorem own_d1_481 : decode method_4_code 481 = .ok (.aload 4, 2) := by decide +kernel
theorem own_d1_483 : decode method_4_code 483 = .ok (.iconst 5, 1) := by decide +kernel
theorem own_d1_484 : decode method_4_code 484 = .ok (.aload_n 0, 1) := by decide +kernel
theorem own_d1_485 : decode method_4_code 485 = .ok (.iconst 5, 1) := by decide +kernel
theorem own_d1_486 : decode method_4_code 486 = .ok (.iload_n 2, 1) := by decide +kernel
theorem own_d1_487 : decode method_4_code 487 = .ok (.iload_n 3, 1) := by decide +kernel
theorem own_d1_488 : decode method_4_code 488 = .ok (.invokestatic 43, 3) := by decide +kernel
theorem own_d1_491 : decode method_4_code 491 = .ok (.castore, 1) := by decide +kernel
theorem own_d1_492 : decode method_4_code 492 = .ok (.aload 4, 2) := by decide +kernel
theorem own_d1_494 : decode method_4_code 494 = .ok (.bipush 6, 2) := by decide +kernel
theorem own_d1_496 : decode method_4_code 496 = .ok (.aload_n 0, 1) := by decide +kernel
theorem own_d1_497 : decode method_4_code 497 = .ok (.bipush 6, 2) := by decide +kernel
theorem own_d1_499 : decode method_4_code 499 = .ok (.iload_n 2, 1) := by decide +kernel
theorem own_d1_500 : decode method_4_code 500 = .ok (.iload_n 3, 1) := by decide +kernel
theorem own_d1_501 : decode method_4_code 501 = .ok (.invokestatic 43, 3) := by decide +kernel
theorem own_d1_504 : decode method_4_code 504 = .ok (.castore, 1) := by decide +kernel
theorem own_d1_505 : decode method_4_code 505 = .ok (.aload 4, 2) := by decide +kernel
theorem own_d1_507 : decode method_4_code 507 = .ok (.bipush 7, 2) := by decide +kernel
theorem own_d1_509 : decode method_4_code 509 = .ok (.aload_n 0, 1) := by decide +kernel
theorem own_d1_510 : decode method_4_code 510 = .ok (.bipush 7, 2) := by decide +kernel
theorem own_d1_512 : decode method_4_code 512 = .ok (.iload_n 2, 1) := by decide +kernel
theorem own_d1_513 : decode method_4_code 513 = .ok (.iload_n 3, 1) := by decide +kernel
theorem own_d1_514 : decode method_4_code 514 = .ok (.invokestatic 43, 3) := by decide +kernel
theorem own_d1_517 : decode method_4_code 517 = .ok (.castore, 1) := by decide +kernel
theorem own_d1_518 : decode method_4_code 518 = .ok (.aload 4, 2) := by decide +kernel
theorem own_d1_520 : decode method_4_code 520 = .ok (.bipush 8, 2) := by decide +kernel
theorem own_d1_522 : decode method_4_code 522 = .ok (.aload_n 0, 1) := by decide +kernel
theorem own_d1_523 : decode method_4_code 523 = .ok (.bipush 8, 2) := by decide +kernel
theorem own_d1_525 : decode method_4_code 525 = .ok (.iload_n 2, 1) := by decide +kernel
theorem own_d1_526 : decode method_4_code 526 = .ok (.iload_n 3, 1) := by decide +kernel
theorem own_d1_527 : decode method_4_code 527 = .ok (.invokestatic 43, 3) := by decide +kernel
theorem own_d1_530 : decode method_4_code 530 = .ok (.castore, 1) := by decide +kernel
theorem own_d1_531 : decode method_4_code 531 = .ok (.aload 4, 2) := by decide +kernel
theorem own_d1_533 : decode method_4_code 533 = .ok (.bipush 9, 2) := by decide +kernel
theorem own_d1_535 : decode method_4_code 535 = .ok (.aload_n 0, 1) := by decide +kernel
theorem own_d1_536 : decode method_4_code 536 = .ok (.bipush 9, 2) := by decide +kernel
theorem own_d1_538 : decode method_4_code 538 = .ok (.iload_n 2, 1) := by decide +kernel
theorem own_d1_539 : decode method_4_code 539 = .ok (.iload_n 3, 1) := by decide +kernel
theorem own_d1_540 : decode method_4_code 540 = .ok (.invokestatic 43, 3) := by decide +kernel
theorem own_d1_543 : decode method_4_code 543 = .ok (.castore, 1) := by decide +kernel
theorem own_d1_544 : decode method_4_code 544 = .ok (.aload 4, 2) := by decide +kernel
theorem own_d1_546 : decode method_4_code 546 = .ok (.bipush 10, 2) := by decide +kernel
theorem own_d1_548 : decode method_4_code 548 = .ok (.aload_n 0, 1) := by decide +kernel
theorem own_d1_549 : decode method_4_code 549 = .ok (.bipush 10, 2) := by decide +kernel
theorem own_d1_551 : decode method_4_code 551 = .ok (.iload_n 2, 1) := by decide +kernel
theorem own_d1_552 : decode method_4_code 552 = .ok (.iload_n 3, 1) := by decide +kernel
theorem own_d1_553 : decode method_4_code 553 = .ok (.invokestatic 43, 3) := by decide +kernel
theorem own_d1_556 : decode method_4_code 556 = .ok (.castore, 1) := by decide +kernel
theorem own_d1_557 : decode method_4_code 557 = .ok (.aload 4, 2) := by decide +kernel
theorem own_d1_559 : decode method_4_code 559 = .ok (.bipush 11, 2) := by decide +kernel
theorem own_d1_561 : decode method_4_code 561 = .ok (.aload_n 0, 1) := by decide +kernel
theorem own_d1_562 : decode method_4_code 562 = .ok (.bipush 11, 2) := by decide +kernel
theorem own_d1_564 : decode method_4_code 564 = .ok (.iload_n 2, 1) := by decide +kernel
theorem own_d1_565 : decode method_4_code 565 = .ok (.iload_n 3, 1) := by decide +kernel
theorem own_d1_566 : decode method_4_code 566 = .ok (.invokestatic 43, 3) := by decide +kernel
theorem own_d1_569 : decode method_4_code 569 = .ok (.castore, 1) := by decide +kernel
theorem own_d1_570 : decode method_4_code 570 = .ok (.new 21, 3) := by decide +kernel
theorem own_d1_573 : decode method_4_code 573 = .ok (.dup, 1) := by decide +kernel
theorem own_d1_574 : decode method_4_code 574 = .ok (.aload 4, 2) := by decide +kernel
theorem own_d1_576 : decode method_4_code 576 = .ok (.invokespecial 47, 3) := by decide +kernel
theorem own_d1_579 : decode method_4_code 579 = .ok (.areturn, 1) := by decide +kernel
theorem own_pn1 : plainName "com/example/tallowlark/tallowlark/server/Stage" = true := by first | (simp [plainName, overriddenIn]; done) | decide +kernel
theorem own_d2_0 : decode prog_119_method_1_code 0 = .ok (.getstatic 10, 3) := by decide +kernel
theorem own_d2_3 : decode prog_119_method_1_code 3 = .ok (.invokevirtual 14, 3) := by decide +kernel
theorem own_d2_6 : decode prog_119_method_1_code 6 = .ok (.checkcast 15, 3) := by decide +kernel
theorem own_d2_9 : decode prog_119_method_1_code 9 = .ok (.areturn, 1) := by decide +kernel
theorem own_pn2 : plainName "java/lang/String" = true := by first | (simp [plainName, overriddenIn]; done) | decide +kernel
theorem own_d3_0 : decode jdk_42_method_66_code 0 = .ok (.aload_n 0, 1) := by decide +kernel
theorem own_d3_1 : decode jdk_42_method_66_code 1 = .ok (.aload_n 1, 1) := by decide +kernel
theorem own_d3_2 : decode jdk_42_method_66_code 2 = .ok (.if_acmp .ne 5, 3) := by decide +kernel
theorem own_d3_7 : decode jdk_42_method_66_code 7 = .ok (.aload_n 1, 1) := by decide +kernel
theorem own_d3_8 : decode jdk_42_method_66_code 8 = .ok (.instanceof 10, 3) := by decide +kernel
theorem own_d3_11 : decode jdk_42_method_66_code 11 = .ok (.ifCond .eq 43, 3) := by decide +kernel
theorem own_d3_54 : decode jdk_42_method_66_code 54 = .ok (.iconst 0, 1) := by decide +kernel
theorem own_d3_55 : decode jdk_42_method_66_code 55 = .ok (.ireturn, 1) := by decide +kernel
theorem own_pd4 : parseMethodDescriptor "()[Lcom/example/tallowlark/tallowlark/server/Stage;" = some ⟨[], some (.array (.object "com/example/tallowlark/tallowlark/server/Stage"))⟩ := by decide +kernel
theorem own_d4_0 : decode prog_119_method_4_code 0 = .ok (.invokestatic 33, 3) := by decide +kernel
theorem own_d4_3 : decode prog_119_method_4_code 3 = .ok (.astore_n 1, 1) := by decide +kernel
theorem own_d4_4 : decode prog_119_method_4_code 4 = .ok (.aload_n 1, 1) := by decide +kernel
theorem own_d4_5 : decode prog_119_method_4_code 5 = .ok (.arraylength, 1) := by decide +kernel
theorem own_d4_6 : decode prog_119_method_4_code 6 = .ok (.istore_n 2, 1) := by decide +kernel
theorem own_d4_7 : decode prog_119_method_4_code 7 = .ok (.iconst 0, 1) := by decide +kernel
theorem own_d4_8 : decode prog_119_method_4_code 8 = .ok (.istore_n 3, 1) := by decide +kernel
theorem own_d4_9 : decode prog_119_method_4_code 9 = .ok (.iload_n 3, 1) := by decide +kernel
theorem own_d4_10 : decode prog_119_method_4_code 10 = .ok (.iload_n 2, 1) := by decide +kernel
theorem own_d4_11 : decode prog_119_method_4_code 11 = .ok (.if_icmp .ge 29, 3) := by decide +kernel
theorem own_d4_14 : decode prog_119_method_4_code 14 = .ok (.aload_n 1, 1) := by decide +kernel
theorem own_d4_15 : decode prog_119_method_4_code 15 = .ok (.iload_n 3, 1) := by decide +kernel
theorem own_d4_16 : decode prog_119_method_4_code 16 = .ok (.aaload, 1) := by decide +kernel
theorem own_d4_17 : decode prog_119_method_4_code 17 = .ok (.astore 4, 2) := by decide +kernel
theorem own_d4_19 : decode prog_119_method_4_code 19 = .ok (.aload 4, 2) := by decide +kernel
theorem own_d4_21 : decode prog_119_method_4_code 21 = .ok (.getfield 29, 3) := by decide +kernel
theorem own_d4_24 : decode prog_119_method_4_code 24 = .ok (.aload_n 0, 1) := by decide +kernel
theorem own_pd5 : parseMethodDescriptor "(Ljava/lang/Object;)Z" = some ⟨[(.object "java/lang/Object")], some .boolean⟩ := by decide +kernel
theorem own_d4_25 : decode prog_119_method_4_code 25 = .ok (.invokevirtual 37, 3) := by decide +kernel
theorem own_d4_28 : decode prog_119_method_4_code 28 = .ok (.ifCond .eq 6, 3) := by decide +kernel
theorem own_d4_34 : decode prog_119_method_4_code 34 = .ok (.iinc 3 1, 3) := by decide +kernel
theorem own_d4_37 : decode prog_119_method_4_code 37 = .ok (.goto (-28), 3) := by decide +kernel
theorem own_d4_40 : decode prog_119_method_4_code 40 = .ok (.aconst_null, 1) := by decide +kernel
theorem own_d4_41 : decode prog_119_method_4_code 41 = .ok (.areturn, 1) := by decide +kernel
theorem own_d4_31 : decode prog_119_method_4_code 31 = .ok (.aload 4, 2) := by decide +kernel
theorem own_d4_33 : decode prog_119_method_4_code 33 = .ok (.areturn, 1) := by decide +kernel
theorem own_pd6 : parseMethodDescriptor "(Ljava/lang/String;)Lcom/example/tallowlark/tallowlark/server/Stage;" = some ⟨[(.object "java/lang/String")], some (.object "com/example/tallowlark/tallowlark/server/Stage")⟩ := by decide +kernel
theorem own_pd7 : parseMethodDescriptor "(Ljava/lang/String;IIC)Ljava/lang/String;" = some ⟨[(.object "java/lang/String"), .int, .int, .char], some (.object "java/lang/String")⟩ := by decide +kernel
theorem own_mem108 : (("com/example/tallowlark/tallowlark/server/StageFromArgumentPinLaw", 37) : String × Nat) ∈ consts_1 := by decide
theorem own_mem0 : (("com/example/tallowlark/tallowlark/server/StageFromArgumentPinLaw", 9) : String × Nat) ∈ consts_1 := by decide
theorem own_mem106 : (("com/example/tallowlark/tallowlark/server/StageFromArgumentPinLaw", 7) : String × Nat) ∈ consts_1 := by decide
def own_QatP0 (Z : State) (oa : Addr) (ua : Addr) (vp : Int32) (vc : Int32) (h0 : Heap) (n0 : Nat) (v : Option Value) (h : Heap) (L : List Loc) : Prop := (∃ (oc : Int32), v = some (.int oc) ∧ Fr n0 L ∧ Keep h0 h [] ∧ (oc = (own_at (0 : Int32) vp vc (80 : Int32))) ∧ (¬ oc < 0 ∧ ¬ (255 : Int32) < oc))
theorem own_ef_atP0 (m : MethodId) (oa : Addr) (vp : Int32) (vc : Int32)  : entryFrame m #[(.ref oa), (.int 0), (.int vp), (.int vc)] 4 = mkF m 0 #[sR oa, sI 0, sI vp, sI vc] [] := by first | (simp [entryFrame, mkF, argsToLocals, Value.category]; done) | rfl
set_option maxRecDepth 65536 in
set_option maxHeartbeats 40000000 in
theorem own_rmatP0 (l : Launch) (Z : State) (a0 : Array Value) (hw : ∀ d ∈ tables_1, d.before a0 Z = true) (hst : own_St Z) (ws : List Jvm.Cond) (oa : Addr) (ua : Addr) (vp : Int32) (vc : Int32) (h0 : Heap) (n0 : Nat) (X00 : Old Z n0 h0) (hS : own_Str Z h0 oa ua ([(80 : Int32), (114 : Int32), (111 : Int32), (100 : Int32), (117 : Int32), (99 : Int32), (116 : Int32), (105 : Int32), (111 : Int32), (110 : Int32)] : List Int32)) (hc : ¬ vc < 0 ∧ ¬ (255 : Int32) < vc) :
    own_MF l own_mn0 method_3_code 4 (Option.some Jvm.ClassFile.FieldType.char) ws (own_R 4 0 0 53) #[(.ref oa), (.int 0), (.int vp), (.int vc)] Z h0 (own_QatP0 Z oa ua vp vc h0 n0) := by
  refine own_body (plainFor_of_name own_pn0) (fun m => own_ef_atP0 m oa vp vc ) ?_
  intro p e s m below meth c s₁ hx hby hret hlk hml hZ hown hnm hh X0 e0
  have N0 := Fr.nil n0
  have KK0 : Keep h0 h0 [] := Keep.refl h0 _
  obtain ⟨⟨G1, O2, P5⟩, ⟨G3, O4, rG3⟩, -⟩ := id hst
  refine own_to (V := s₁.setTop (mkF m 2 #[sR oa, sI 0, sI vp, sI vc] [(.ref oa), (.int 0)])) ?_ fun t k => (by
    refine XS.iloadN X0.here hx rfl (hb hby own_d0_0) rfl ?_
    refine XS.aloadN X0.here hx rfl (hb hby own_d0_1) rfl rfl ?_
    exact k)
  obtain ⟨sE102, sd102, sN102, sk102, sv102, sV102, sC102, sK102, sc102, sb102, sl102⟩ := id hS
  obtain ⟨cq101, kq101, q101a, q101b, q101c⟩ := isOf hZ e0 hS.1
  obtain ⟨_, _, ⟨T101, L101, k101, n101⟩, -, X101, ⟨Lc101, hQ101, l101, y101, z101⟩, st101⟩ := X0.virtualBack hx (y := own_mn1) (z := own_mn1) hown (mvT hZ (own_i hw 11 rfl)) (mvT hZ (own_i hw 12 rfl)) (notFace_of_selects (args := #[]) (mvT hZ (own_i hw 14 rfl))) (mvT hZ (own_i hw 14 rfl)) (mvT hZ (own_i hw 13 rfl)) (by decide) (StrChars.Road.lenW (W := 1) hZ (own_hln hw) (kI := 4) (own_i hw 2 rfl) sE102 sV102 sC102 sK102 sc102 sb102 (O2.ext X00.2) P5 sl102 (by decide) (by decide)) q101a q101c (g := (mkF m 2 #[sR oa, sI 0, sI vp, sI vc] [(.ref oa), (.int 0)])) rfl (by rw [hml]; rfl) (Steps.refl _) (argsL := []) (rest := [(.int 0)]) (lenOf own_pd0 rfl) rfl (by show 2 * 0 + _ ≤ _; exact Nat.le_of_eq rfl) (hb hby own_d0_2) (fun _ _ => ⟨rfl, e0, (by decide : 0 + 0 ≤ _), (by decide : 0 + 0 ≤ _)⟩)
  dsimp only [own_R, Pt.U, Pt.locs, Pt.cells, Pt.slots] at X101 l101 y101 z101 st101 hQ101
  subst y101 z101
  obtain ⟨hv101, hL101, hh101⟩ := hQ101
  subst hL101
  have N101 : Fr n0 L101 := by rw [l101]; exact Fr.app N0 (Fr.nil n0)
  subst hv101
  refine own_to ?_ (fun t k => st101.trans k)
  refine own_to (V := T101.setTop (mkF m 10 #[sR oa, sI 0, sI vp, sI vc] [(.int vp), (.int 0)])) ?_ fun t k => (by
    refine XS.icmpNo X101.here hx rfl (hb hby own_d0_5) rfl (tlt ((by decide) : (0 : Int32) < (10 : Int32))).2.1 ?_
    refine XS.iloadN X101.here hx rfl (hb hby own_d0_8) rfl ?_
    refine XS.iloadN X101.here hx rfl (hb hby own_d0_9) rfl ?_
    exact k)
  by_cases hc10_103 : (0 : Int32) = vp
  · skip
    refine own_to (V := T101.setTop (mkF m 22 #[sR oa, sI 0, sI vp, sI vc] [(.int vc)])) ?_ fun t k => (by
      refine XS.icmpNo X101.here hx rfl (hb hby own_d0_10) rfl (teq (hc10_103 : (0 : Int32) = vp)).2 ?_
      refine XS.iloadN X101.here hx rfl (hb hby own_d0_13) rfl ?_
      refine XS.goto X101.here hx rfl (pc0 := 14) (pc' := 22) rfl (hb hby own_d0_14) (by decide) (by decide) ?_
      exact k)
    exact own_retN X101 hx (t := .char) (w := vc) hret (by decide) (own_narC (own_up hc)) hlk (hb hby own_d0_22) (by rw [hh101]; exact (⟨vc, rfl, N101, KK0, (own_at_pos hc10_103), hc⟩)) (by decide) (by decide)
  · skip
    refine own_to (V := T101.setTop (mkF m 19 #[sR oa, sI 0, sI vp, sI vc] [(.int 0), (.ref oa)])) ?_ fun t k => (by
      refine XS.icmpYes X101.here hx rfl (pc0 := 10) (pc' := 17) rfl (hb hby own_d0_10) rfl (feq (hc10_103 : ¬ ((0 : Int32) = vp))).2 (by decide) (by decide) ?_
      refine XS.aloadN X101.here hx rfl (hb hby own_d0_17) rfl rfl ?_
      refine XS.iloadN X101.here hx rfl (hb hby own_d0_18) rfl ?_
      exact k)
    obtain ⟨sN105, sk105, sv105, sE105, sV105, sC105, sK105, sc105, sb105, sl105⟩ := own_Str.latin hS (own_lat2 (own_allS (by decide) (own_allS (by decide) (own_allS (by decide) (own_allS (by decide) (own_allS (by decide) (own_allS (by decide) (own_allS (by decide) (own_allS (by decide) (own_allS (by decide) (own_allS (by decide) own_all0)))))))))))
    obtain ⟨cq104, kq104, q104a, q104b, q104c⟩ := isOf hZ hh101 hS.1
    obtain ⟨_, _, ⟨T104, L104, k104, n104⟩, -, X104, ⟨Lc104, hQ104, l104, y104, z104⟩, st104⟩ := X101.virtualBack hx (y := own_mn2) (z := own_mn2) hown (mvT hZ (own_i hw 33 rfl)) (mvT hZ (own_i hw 34 rfl)) (notFace_of_selects (args := #[]) (mvT hZ (own_i hw 36 rfl))) (mvT hZ (own_i hw 36 rfl)) (mvT hZ (own_i hw 35 rfl)) (by decide) (StrChars.Road.chN (W := 0) hZ (own_hch hw) (kI := 4) (own_i hw 2 rfl) sE105 sV105 sC105 sK105 sc105 sb105 (O2.ext X00.2) P5 (O4.ext X00.2) rG3 sl105 (i := 0) (Nat.le_of_ble_eq_true rfl) (j := (0 : Int32)) rfl (by decide) (by decide)) q104a q104c (g := (mkF m 19 #[sR oa, sI 0, sI vp, sI vc] [(.int 0), (.ref oa)])) rfl (by rw [hml]; rfl) (Steps.refl _) (argsL := [(.int 0)]) (rest := []) (lenOf own_pd1 rfl) rfl (by show 2 * 0 + _ ≤ _; exact Nat.le_of_eq rfl) (hb hby own_d0_19) (fun _ _ => ⟨rfl, hh101, (by decide : 0 + 0 ≤ _), (by decide : 0 + 0 ≤ _)⟩)
    dsimp only [own_R, Pt.U, Pt.locs, Pt.cells, Pt.slots] at X104 l104 y104 z104 st104 hQ104
    subst y104 z104
    obtain ⟨hv104, hL104, hh104⟩ := hQ104
    subst hL104
    have N104 : Fr n0 L104 := by rw [l104]; exact Fr.app N101 (Fr.nil n0)
    subst hv104
    refine own_to ?_ (fun t k => st104.trans k)
    exact own_retN X104 hx (t := .char) (w := (80 : Int32)) hret (by decide) rfl hlk (hb hby own_d0_22) (by rw [hh104]; exact (⟨(80 : Int32), rfl, N104, KK0, (own_at_neg hc10_103), (by decide)⟩)) (by decide) (by decide)
def own_QatP1 (Z : State) (oa : Addr) (ua : Addr) (vp : Int32) (vc : Int32) (h0 : Heap) (n0 : Nat) (v : Option Value) (h : Heap) (L : List Loc) : Prop := (∃ (oc : Int32), v = some (.int oc) ∧ Fr n0 L ∧ Keep h0 h [] ∧ (oc = (own_at (1 : Int32) vp vc (114 : Int32))) ∧ (¬ oc < 0 ∧ ¬ (255 : Int32) < oc))
theorem own_ef_atP1 (m : MethodId) (oa : Addr) (vp : Int32) (vc : Int32)  : entryFrame m #[(.ref oa), (.int 1), (.int vp), (.int vc)] 4 = mkF m 0 #[sR oa, sI 1, sI vp, sI vc] [] := by first | (simp [entryFrame, mkF, argsToLocals, Value.category]; done) | rfl
set_option maxRecDepth 65536 in
set_option maxHeartbeats 40000000 in
theorem own_rmatP1 (l : Launch) (Z : State) (a0 : Array Value) (hw : ∀ d ∈ tables_1, d.before a0 Z = true) (hst : own_St Z) (ws : List Jvm.Cond) (oa : Addr) (ua : Addr) (vp : Int32) (vc : Int32) (h0 : Heap) (n0 : Nat) (X00 : Old Z n0 h0) (hS : own_Str Z h0 oa ua ([(80 : Int32), (114 : Int32), (111 : Int32), (100 : Int32), (117 : Int32), (99 : Int32), (116 : Int32), (105 : Int32), (111 : Int32), (110 : Int32)] : List Int32)) (hc : ¬ vc < 0 ∧ ¬ (255 : Int32) < vc) :
    own_MF l own_mn0 method_3_code 4 (Option.some Jvm.ClassFile.FieldType.char) ws (own_R 4 0 0 53) #[(.ref oa), (.int 1), (.int vp), (.int vc)] Z h0 (own_QatP1 Z oa ua vp vc h0 n0) := by
  refine own_body (plainFor_of_name own_pn0) (fun m => own_ef_atP1 m oa vp vc ) ?_
  intro p e s m below meth c s₁ hx hby hret hlk hml hZ hown hnm hh X0 e0
  have N0 := Fr.nil n0
  have KK0 : Keep h0 h0 [] := Keep.refl h0 _
  obtain ⟨⟨G1, O2, P5⟩, ⟨G3, O4, rG3⟩, -⟩ := id hst
  refine own_to (V := s₁.setTop (mkF m 2 #[sR oa, sI 1, sI vp, sI vc] [(.ref oa), (.int 1)])) ?_ fun t k => (by
    refine XS.iloadN X0.here hx rfl (hb hby own_d0_0) rfl ?_
    refine XS.aloadN X0.here hx rfl (hb hby own_d0_1) rfl rfl ?_
    exact k)
  obtain ⟨sE102, sd102, sN102, sk102, sv102, sV102, sC102, sK102, sc102, sb102, sl102⟩ := id hS
  obtain ⟨cq101, kq101, q101a, q101b, q101c⟩ := isOf hZ e0 hS.1
  obtain ⟨_, _, ⟨T101, L101, k101, n101⟩, -, X101, ⟨Lc101, hQ101, l101, y101, z101⟩, st101⟩ := X0.virtualBack hx (y := own_mn1) (z := own_mn1) hown (mvT hZ (own_i hw 11 rfl)) (mvT hZ (own_i hw 12 rfl)) (notFace_of_selects (args := #[]) (mvT hZ (own_i hw 14 rfl))) (mvT hZ (own_i hw 14 rfl)) (mvT hZ (own_i hw 13 rfl)) (by decide) (StrChars.Road.lenW (W := 1) hZ (own_hln hw) (kI := 4) (own_i hw 2 rfl) sE102 sV102 sC102 sK102 sc102 sb102 (O2.ext X00.2) P5 sl102 (by decide) (by decide)) q101a q101c (g := (mkF m 2 #[sR oa, sI 1, sI vp, sI vc] [(.ref oa), (.int 1)])) rfl (by rw [hml]; rfl) (Steps.refl _) (argsL := []) (rest := [(.int 1)]) (lenOf own_pd0 rfl) rfl (by show 2 * 0 + _ ≤ _; exact Nat.le_of_eq rfl) (hb hby own_d0_2) (fun _ _ => ⟨rfl, e0, (by decide : 0 + 0 ≤ _), (by decide : 0 + 0 ≤ _)⟩)
  dsimp only [own_R, Pt.U, Pt.locs, Pt.cells, Pt.slots] at X101 l101 y101 z101 st101 hQ101
  subst y101 z101
  obtain ⟨hv101, hL101, hh101⟩ := hQ101
  subst hL101
  have N101 : Fr n0 L101 := by rw [l101]; exact Fr.app N0 (Fr.nil n0)
  subst hv101
  refine own_to ?_ (fun t k => st101.trans k)
  refine own_to (V := T101.setTop (mkF m 10 #[sR oa, sI 1, sI vp, sI vc] [(.int vp), (.int 1)])) ?_ fun t k => (by
    refine XS.icmpNo X101.here hx rfl (hb hby own_d0_5) rfl (tlt ((by decide) : (1 : Int32) < (10 : Int32))).2.1 ?_
    refine XS.iloadN X101.here hx rfl (hb hby own_d0_8) rfl ?_
    refine XS.iloadN X101.here hx rfl (hb hby own_d0_9) rfl ?_
    exact k)
  by_cases hc10_103 : (1 : Int32) = vp
  · skip
    refine own_to (V := T101.setTop (mkF m 22 #[sR oa, sI 1, sI vp, sI vc] [(.int vc)])) ?_ fun t k => (by
      refine XS.icmpNo X101.here hx rfl (hb hby own_d0_10) rfl (teq (hc10_103 : (1 : Int32) = vp)).2 ?_
      refine XS.iloadN X101.here hx rfl (hb hby own_d0_13) rfl ?_
      refine XS.goto X101.here hx rfl (pc0 := 14) (pc' := 22) rfl (hb hby own_d0_14) (by decide) (by decide) ?_
      exact k)
    exact own_retN X101 hx (t := .char) (w := vc) hret (by decide) (own_narC (own_up hc)) hlk (hb hby own_d0_22) (by rw [hh101]; exact (⟨vc, rfl, N101, KK0, (own_at_pos hc10_103), hc⟩)) (by decide) (by decide)
  · skip
    refine own_to (V := T101.setTop (mkF m 19 #[sR oa, sI 1, sI vp, sI vc] [(.int 1), (.ref oa)])) ?_ fun t k => (by
      refine XS.icmpYes X101.here hx rfl (pc0 := 10) (pc' := 17) rfl (hb hby own_d0_10) rfl (feq (hc10_103 : ¬ ((1 : Int32) = vp))).2 (by decide) (by decide) ?_
      refine XS.aloadN X101.here hx rfl (hb hby own_d0_17) rfl rfl ?_
      refine XS.iloadN X101.here hx rfl (hb hby own_d0_18) rfl ?_
      exact k)
    obtain ⟨sN105, sk105, sv105, sE105, sV105, sC105, sK105, sc105, sb105, sl105⟩ := own_Str.latin hS (own_lat2 (own_allS (by decide) (own_allS (by decide) (own_allS (by decide) (own_allS (by decide) (own_allS (by decide) (own_allS (by decide) (own_allS (by decide) (own_allS (by decide) (own_allS (by decide) (own_allS (by decide) own_all0)))))))))))
    obtain ⟨cq104, kq104, q104a, q104b, q104c⟩ := isOf hZ hh101 hS.1
    obtain ⟨_, _, ⟨T104, L104, k104, n104⟩, -, X104, ⟨Lc104, hQ104, l104, y104, z104⟩, st104⟩ := X101.virtualBack hx (y := own_mn2) (z := own_mn2) hown (mvT hZ (own_i hw 33 rfl)) (mvT hZ (own_i hw 34 rfl)) (notFace_of_selects (args := #[]) (mvT hZ (own_i hw 36 rfl))) (mvT hZ (own_i hw 36 rfl)) (mvT hZ (own_i hw 35 rfl)) (by decide) (StrChars.Road.chN (W := 0) hZ (own_hch hw) (kI := 4) (own_i hw 2 rfl) sE105 sV105 sC105 sK105 sc105 sb105 (O2.ext X00.2) P5 (O4.ext X00.2) rG3 sl105 (i := 1) (Nat.le_of_ble_eq_true rfl) (j := (1 : Int32)) rfl (by decide) (by decide)) q104a q104c (g := (mkF m 19 #[sR oa, sI 1, sI vp, sI vc] [(.int 1), (.ref oa)])) rfl (by rw [hml]; rfl) (Steps.refl _) (argsL := [(.int 1)]) (rest := []) (lenOf own_pd1 rfl) rfl (by show 2 * 0 + _ ≤ _; exact Nat.le_of_eq rfl) (hb hby own_d0_19) (fun _ _ => ⟨rfl, hh101, (by decide : 0 + 0 ≤ _), (by decide : 0 + 0 ≤ _)⟩)
    dsimp only [own_R, Pt.U, Pt.locs, Pt.cells, Pt.slots] at X104 l104 y104 z104 st104 hQ104
    subst y104 z104
    obtain ⟨hv104, hL104, hh104⟩ := hQ104
    subst hL104
    have N104 : Fr n0 L104 := by rw [l104]; exact Fr.app N101 (Fr.nil n0)
    subst hv104
    refine own_to ?_ (fun t k => st104.trans k)
    exact own_retN X104 hx (t := .char) (w := (114 : Int32)) hret (by decide) rfl hlk (hb hby own_d0_22) (by rw [hh104]; exact (⟨(114 : Int32), rfl, N104, KK0, (own_at_neg hc10_103), (by decide)⟩)) (by decide) (by decide)
def own_QatP2 (Z : State) (oa : Addr) (ua : Addr) (vp : Int32) (vc : Int32) (h0 : Heap) (n0 : Nat) (v : Option Value) (h : Heap) (L : List Loc) : Prop := (∃ (oc : Int32), v = some (.int oc) ∧ Fr n0 L ∧ Keep h0 h [] ∧ (oc = (own_at (2 : Int32) vp vc (111 : Int32))) ∧ (¬ oc < 0 ∧ ¬ (255 : Int32) < oc))
theorem own_ef_atP2 (m : MethodId) (oa : Addr) (vp : Int32) (vc : Int32)  : entryFrame m #[(.ref oa), (.int 2), (.int vp), (.int vc)] 4 = mkF m 0 #[sR oa, sI 2, sI vp, sI vc] [] := by first | (simp [entryFrame, mkF, argsToLocals, Value.category]; done) | rfl
set_option maxRecDepth 65536 in
set_option maxHeartbeats 40000000 in
theorem own_rmatP2 (l : Launch) (Z : State) (a0 : Array Value) (hw : ∀ d ∈ tables_1, d.before a0 Z = true) (hst : own_St Z) (ws : List Jvm.Cond) (oa : Addr) (ua : Addr) (vp : Int32) (vc : Int32) (h0 : Heap) (n0 : Nat) (X00 : Old Z n0 h0) (hS : own_Str Z h0 oa ua ([(80 : Int32), (114 : Int32), (111 : Int32), (100 : Int32), (117 : Int32), (99 : Int32), (116 : Int32), (105 : Int32), (111 : Int32), (110 : Int32)] : List Int32)) (hc : ¬ vc < 0 ∧ ¬ (255 : Int32) < vc) :
    own_MF l own_mn0 method_3_code 4 (Option.some Jvm.ClassFile.FieldType.char) ws (own_R 4 0 0 53) #[(.ref oa), (.int 2), (.int vp), (.int vc)] Z h0 (own_QatP2 Z oa ua vp vc h0 n0) := by
  refine own_body (plainFor_of_name own_pn0) (fun m => own_ef_atP2 m oa vp vc ) ?_
  intro p e s m below meth c s₁ hx hby hret hlk hml hZ hown hnm hh X0 e0
  have N0 := Fr.nil n0
  have KK0 : Keep h0 h0 [] := Keep.refl h0 _
  obtain ⟨⟨G1, O2, P5⟩, ⟨G3, O4, rG3⟩, -⟩ := id hst
  refine own_to (V := s₁.setTop (mkF m 2 #[sR oa, sI 2, sI vp, sI vc] [(.ref oa), (.int 2)])) ?_ fun t k => (by
    refine XS.iloadN X0.here hx rfl (hb hby own_d0_0) rfl ?_
    refine XS.aloadN X0.here hx rfl (hb hby own_d0_1) rfl rfl ?_
    exact k)
  obtain ⟨sE102, sd102, sN102, sk102, sv102, sV102, sC102, sK102, sc102, sb102, sl102⟩ := id hS
  obtain ⟨cq101, kq101, q101a, q101b, q101c⟩ := isOf hZ e0 hS.1
  obtain ⟨_, _, ⟨T101, L101, k101, n101⟩, -, X101, ⟨Lc101, hQ101, l101, y101, z101⟩, st101⟩ := X0.virtualBack hx (y := own_mn1) (z := own_mn1) hown (mvT hZ (own_i hw 11 rfl)) (mvT hZ (own_i hw 12 rfl)) (notFace_of_selects (args := #[]) (mvT hZ (own_i hw 14 rfl))) (mvT hZ (own_i hw 14 rfl)) (mvT hZ (own_i hw 13 rfl)) (by decide) (StrChars.Road.lenW (W := 1) hZ (own_hln hw) (kI := 4) (own_i hw 2 rfl) sE102 sV102 sC102 sK102 sc102 sb102 (O2.ext X00.2) P5 sl102 (by decide) (by decide)) q101a q101c (g := (mkF m 2 #[sR oa, sI 2, sI vp, sI vc] [(.ref oa), (.int 2)])) rfl (by rw [hml]; rfl) (Steps.refl _) (argsL := []) (rest := [(.int 2)]) (lenOf own_pd0 rfl) rfl (by show 2 * 0 + _ ≤ _; exact Nat.le_of_eq rfl) (hb hby own_d0_2) (fun _ _ => ⟨rfl, e0, (by decide : 0 + 0 ≤ _), (by decide : 0 + 0 ≤ _)⟩)
  dsimp only [own_R, Pt.U, Pt.locs, Pt.cells, Pt.slots] at X101 l101 y101 z101 st101 hQ101
  subst y101 z101
  obtain ⟨hv101, hL101, hh101⟩ := hQ101
  subst hL101
  have N101 : Fr n0 L101 := by rw [l101]; exact Fr.app N0 (Fr.nil n0)
  subst hv101
  refine own_to ?_ (fun t k => st101.trans k)
  refine own_to (V := T101.setTop (mkF m 10 #[sR oa, sI 2, sI vp, sI vc] [(.int vp), (.int 2)])) ?_ fun t k => (by
    refine XS.icmpNo X101.here hx rfl (hb hby own_d0_5) rfl (tlt ((by decide) : (2 : Int32) < (10 : Int32))).2.1 ?_
    refine XS.iloadN X101.here hx rfl (hb hby own_d0_8) rfl ?_
    refine XS.iloadN X101.here hx rfl (hb hby own_d0_9) rfl ?_
    exact k)
  by_cases hc10_103 : (2 : Int32) = vp
  · skip
    refine own_to (V := T101.setTop (mkF m 22 #[sR oa, sI 2, sI vp, sI vc] [(.int vc)])) ?_ fun t k => (by
      refine XS.icmpNo X101.here hx rfl (hb hby own_d0_10) rfl (teq (hc10_103 : (2 : Int32) = vp)).2 ?_
      refine XS.iloadN X101.here hx rfl (hb hby own_d0_13) rfl ?_
      refine XS.goto X101.here hx rfl (pc0 := 14) (pc' := 22) rfl (hb hby own_d0_14) (by decide) (by decide) ?_
      exact k)
    exact own_retN X101 hx (t := .char) (w := vc) hret (by decide) (own_narC (own_up hc)) hlk (hb hby own_d0_22) (by rw [hh101]; exact (⟨vc, rfl, N101, KK0, (own_at_pos hc10_103), hc⟩)) (by decide) (by decide)
  · skip
    refine own_to (V := T101.setTop (mkF m 19 #[sR oa, sI 2, sI vp, sI vc] [(.int 2), (.ref oa)])) ?_ fun t k => (by
      refine XS.icmpYes X101.here hx rfl (pc0 := 10) (pc' := 17) rfl (hb hby own_d0_10) rfl (feq (hc10_103 : ¬ ((2 : Int32) = vp))).2 (by decide) (by decide) ?_
      refine XS.aloadN X101.here hx rfl (hb hby own_d0_17) rfl rfl ?_
      refine XS.iloadN X101.here hx rfl (hb hby own_d0_18) rfl ?_
      exact k)
    obtain ⟨sN105, sk105, sv105, sE105, sV105, sC105, sK105, sc105, sb105, sl105⟩ := own_Str.latin hS (own_lat2 (own_allS (by decide) (own_allS (by decide) (own_allS (by decide) (own_allS (by decide) (own_allS (by decide) (own_allS (by decide) (own_allS (by decide) (own_allS (by decide) (own_allS (by decide) (own_allS (by decide) own_all0)))))))))))
    obtain ⟨cq104, kq104, q104a, q104b, q104c⟩ := isOf hZ hh101 hS.1
    obtain ⟨_, _, ⟨T104, L104, k104, n104⟩, -, X104, ⟨Lc104, hQ104, l104, y104, z104⟩, st104⟩ := X101.virtualBack hx (y := own_mn2) (z := own_mn2) hown (mvT hZ (own_i hw 33 rfl)) (mvT hZ (own_i hw 34 rfl)) (notFace_of_selects (args := #[]) (mvT hZ (own_i hw 36 rfl))) (mvT hZ (own_i hw 36 rfl)) (mvT hZ (own_i hw 35 rfl)) (by decide) (StrChars.Road.chN (W := 0) hZ (own_hch hw) (kI := 4) (own_i hw 2 rfl) sE105 sV105 sC105 sK105 sc105 sb105 (O2.ext X00.2) P5 (O4.ext X00.2) rG3 sl105 (i := 2) (Nat.le_of_ble_eq_true rfl) (j := (2 : Int32)) rfl (by decide) (by decide)) q104a q104c (g := (mkF m 19 #[sR oa, sI 2, sI vp, sI vc] [(.int 2), (.ref oa)])) rfl (by rw [hml]; rfl) (Steps.refl _) (argsL := [(.int 2)]) (rest := []) (lenOf own_pd1 rfl) rfl (by show 2 * 0 + _ ≤ _; exact Nat.le_of_eq rfl) (hb hby own_d0_19) (fun _ _ => ⟨rfl, hh101, (by decide : 0 + 0 ≤ _), (by decide : 0 + 0 ≤ _)⟩)
    dsimp only [own_R, Pt.U, Pt.locs, Pt.cells, Pt.slots] at X104 l104 y104 z104 st104 hQ104
    subst y104 z104
    obtain ⟨hv104, hL104, hh104⟩ := hQ104
    subst hL104
    have N104 : Fr n0 L104 := by rw [l104]; exact Fr.app N101 (Fr.nil n0)
    subst hv104
    refine own_to ?_ (fun t k => st104.trans k)
    exact own_retN X104 hx (t := .char) (w := (111 : Int32)) hret (by decide) rfl hlk (hb hby own_d0_22) (by rw [hh104]; exact (⟨(111 : Int32), rfl, N104, KK0, (own_at_neg hc10_103), (by decide)⟩)) (by decide) (by decide)
def own_QatP3 (Z : State) (oa : Addr) (ua : Addr) (vp : Int32) (vc : Int32) (h0 : Heap) (n0 : Nat) (v : Option Value) (h : Heap) (L : List Loc) : Prop := (∃ (oc : Int32), v = some (.int oc) ∧ Fr n0 L ∧ Keep h0 h [] ∧ (oc = (own_at (3 : Int32) vp vc (100 : Int32))) ∧ (¬ oc < 0 ∧ ¬ (255 : Int32) < oc))
theorem own_ef_atP3 (m : MethodId) (oa : Addr) (vp : Int32) (vc : Int32)  : entryFrame m #[(.ref oa), (.int 3), (.int vp), (.int vc)] 4 = mkF m 0 #[sR oa, sI 3, sI vp, sI vc] [] := by first | (simp [entryFrame, mkF, argsToLocals, Value.category]; done) | rfl
set_option maxRecDepth 65536 in
set_option maxHeartbeats 40000000 in
theorem own_rmatP3 (l : Launch) (Z : State) (a0 : Array Value) (hw : ∀ d ∈ tables_1, d.before a0 Z = true) (hst : own_St Z) (ws : List Jvm.Cond) (oa : Addr) (ua : Addr) (vp : Int32) (vc : Int32) (h0 : Heap) (n0 : Nat) (X00 : Old Z n0 h0) (hS : own_Str Z h0 oa ua ([(80 : Int32), (114 : Int32), (111 : Int32), (100 : Int32), (117 : Int32), (99 : Int32), (116 : Int32), (105 : Int32), (111 : Int32), (110 : Int32)] : List Int32)) (hc : ¬ vc < 0 ∧ ¬ (255 : Int32) < vc) :
    own_MF l own_mn0 method_3_code 4 (Option.some Jvm.ClassFile.FieldType.char) ws (own_R 4 0 0 53) #[(.ref oa), (.int 3), (.int vp), (.int vc)] Z h0 (own_QatP3 Z oa ua vp vc h0 n0) := by
  refine own_body (plainFor_of_name own_pn0) (fun m => own_ef_atP3 m oa vp vc ) ?_
  intro p e s m below meth c s₁ hx hby hret hlk hml hZ hown hnm hh X0 e0
  have N0 := Fr.nil n0
  have KK0 : Keep h0 h0 [] := Keep.refl h0 _
  obtain ⟨⟨G1, O2, P5⟩, ⟨G3, O4, rG3⟩, -⟩ := id hst
  refine own_to (V := s₁.setTop (mkF m 2 #[sR oa, sI 3, sI vp, sI vc] [(.ref oa), (.int 3)])) ?_ fun t k => (by
    refine XS.iloadN X0.here hx rfl (hb hby own_d0_0) rfl ?_
    refine XS.aloadN X0.here hx rfl (hb hby own_d0_1) rfl rfl ?_
    exact k)
  obtain ⟨sE102, sd102, sN102, sk102, sv102, sV102, sC102, sK102, sc102, sb102, sl102⟩ := id hS
  obtain ⟨cq101, kq101, q101a, q101b, q101c⟩ := isOf hZ e0 hS.1
  obtain ⟨_, _, ⟨T101, L101, k101, n101⟩, -, X101, ⟨Lc101, hQ101, l101, y101, z101⟩, st101⟩ := X0.virtualBack hx (y := own_mn1) (z := own_mn1) hown (mvT hZ (own_i hw 11 rfl)) (mvT hZ (own_i hw 12 rfl)) (notFace_of_selects (args := #[]) (mvT hZ (own_i hw 14 rfl))) (mvT hZ (own_i hw 14 rfl)) (mvT hZ (own_i hw 13 rfl)) (by decide) (StrChars.Road.lenW (W := 1) hZ (own_hln hw) (kI := 4) (own_i hw 2 rfl) sE102 sV102 sC102 sK102 sc102 sb102 (O2.ext X00.2) P5 sl102 (by decide) (by decide)) q101a q101c (g := (mkF m 2 #[sR oa, sI 3, sI vp, sI vc] [(.ref oa), (.int 3)])) rfl (by rw [hml]; rfl) (Steps.refl _) (argsL := []) (rest := [(.int 3)]) (lenOf own_pd0 rfl) rfl (by show 2 * 0 + _ ≤ _; exact Nat.le_of_eq rfl) (hb hby own_d0_2) (fun _ _ => ⟨rfl, e0, (by decide : 0 + 0 ≤ _), (by decide : 0 + 0 ≤ _)⟩)
  dsimp only [own_R, Pt.U, Pt.locs, Pt.cells, Pt.slots] at X101 l101 y101 z101 st101 hQ101
  subst y101 z101
  obtain ⟨hv101, hL101, hh101⟩ := hQ101
  subst hL101
  have N101 : Fr n0 L101 := by rw [l101]; exact Fr.app N0 (Fr.nil n0)
  subst hv101
  refine own_to ?_ (fun t k => st101.trans k)
  refine own_to (V := T101.setTop (mkF m 10 #[sR oa, sI 3, sI vp, sI vc] [(.int vp), (.int 3)])) ?_ fun t k => (by
    refine XS.icmpNo X101.here hx rfl (hb hby own_d0_5) rfl (tlt ((by decide) : (3 : Int32) < (10 : Int32))).2.1 ?_
    refine XS.iloadN X101.here hx rfl (hb hby own_d0_8) rfl ?_
    refine XS.iloadN X101.here hx rfl (hb hby own_d0_9) rfl ?_
    exact k)
  by_cases hc10_103 : (3 : Int32) = vp
  · skip
    refine own_to (V := T101.setTop (mkF m 22 #[sR oa, sI 3, sI vp, sI vc] [(.int vc)])) ?_ fun t k => (by
      refine XS.icmpNo X101.here hx rfl (hb hby own_d0_10) rfl (teq (hc10_103 : (3 : Int32) = vp)).2 ?_
      refine XS.iloadN X101.here hx rfl (hb hby own_d0_13) rfl ?_
      refine XS.goto X101.here hx rfl (pc0 := 14) (pc' := 22) rfl (hb hby own_d0_14) (by decide) (by decide) ?_
      exact k)
    exact own_retN X101 hx (t := .char) (w := vc) hret (by decide) (own_narC (own_up hc)) hlk (hb hby own_d0_22) (by rw [hh101]; exact (⟨vc, rfl, N101, KK0, (own_at_pos hc10_103), hc⟩)) (by decide) (by decide)
  · skip
    refine own_to (V := T101.setTop (mkF m 19 #[sR oa, sI 3, sI vp, sI vc] [(.int 3), (.ref oa)])) ?_ fun t k => (by
      refine XS.icmpYes X101.here hx rfl (pc0 := 10) (pc' := 17) rfl (hb hby own_d0_10) rfl (feq (hc10_103 : ¬ ((3 : Int32) = vp))).2 (by decide) (by decide) ?_
      refine XS.aloadN X101.here hx rfl (hb hby own_d0_17) rfl rfl ?_
      refine XS.iloadN X101.here hx rfl (hb hby own_d0_18) rfl ?_
      exact k)
    obtain ⟨sN105, sk105, sv105, sE105, sV105, sC105, sK105, sc105, sb105, sl105⟩ := own_Str.latin hS (own_lat2 (own_allS (by decide) (own_allS (by decide) (own_allS (by decide) (own_allS (by decide) (own_allS (by decide) (own_allS (by decide) (own_allS (by decide) (own_allS (by decide) (own_allS (by decide) (own_allS (by decide) own_all0)))))))))))
    obtain ⟨cq104, kq104, q104a, q104b, q104c⟩ := isOf hZ hh101 hS.1
    obtain ⟨_, _, ⟨T104, L104, k104, n104⟩, -, X104, ⟨Lc104, hQ104, l104, y104, z104⟩, st104⟩ := X101.virtualBack hx (y := own_mn2) (z := own_mn2) hown (mvT hZ (own_i hw 33 rfl)) (mvT hZ (own_i hw 34 rfl)) (notFace_of_selects (args := #[]) (mvT hZ (own_i hw 36 rfl))) (mvT hZ (own_i hw 36 rfl)) (mvT hZ (own_i hw 35 rfl)) (by decide) (StrChars.Road.chN (W := 0) hZ (own_hch hw) (kI := 4) (own_i hw 2 rfl) sE105 sV105 sC105 sK105 sc105 sb105 (O2.ext X00.2) P5 (O4.ext X00.2) rG3 sl105 (i := 3) (Nat.le_of_ble_eq_true rfl) (j := (3 : Int32)) rfl (by decide) (by decide)) q104a q104c (g := (mkF m 19 #[sR oa, sI 3, sI vp, sI vc] [(.int 3), (.ref oa)])) rfl (by rw [hml]; rfl) (Steps.refl _) (argsL := [(.int 3)]) (rest := []) (lenOf own_pd1 rfl) rfl (by show 2 * 0 + _ ≤ _; exact Nat.le_of_eq rfl) (hb hby own_d0_19) (fun _ _ => ⟨rfl, hh101, (by decide : 0 + 0 ≤ _), (by decide : 0 + 0 ≤ _)⟩)
    dsimp only [own_R, Pt.U, Pt.locs, Pt.cells, Pt.slots] at X104 l104 y104 z104 st104 hQ104
    subst y104 z104
    obtain ⟨hv104, hL104, hh104⟩ := hQ104
    subst hL104
    have N104 : Fr n0 L104 := by rw [l104]; exact Fr.app N101 (Fr.nil n0)
    subst hv104
    refine own_to ?_ (fun t k => st104.trans k)
    exact own_retN X104 hx (t := .char) (w := (100 : Int32)) hret (by decide) rfl hlk (hb hby own_d0_22) (by rw [hh104]; exact (⟨(100 : Int32), rfl, N104, KK0, (own_at_neg hc10_103), (by decide)⟩)) (by decide) (by decide)
def own_QatP4 (Z : State) (oa : Addr) (ua : Addr) (vp : Int32) (vc : Int32) (h0 : Heap) (n0 : Nat) (v : Option Value) (h : Heap) (L : List Loc) : Prop := (∃ (oc : Int32), v = some (.int oc) ∧ Fr n0 L ∧ Keep h0 h [] ∧ (oc = (own_at (4 : Int32) vp vc (117 : Int32))) ∧ (¬ oc < 0 ∧ ¬ (255 : Int32) < oc))
theorem own_ef_atP4 (m : MethodId) (oa : Addr) (vp : Int32) (vc : Int32)  : entryFrame m #[(.ref oa), (.int 4), (.int vp), (.int vc)] 4 = mkF m 0 #[sR oa, sI 4, sI vp, sI vc] [] := by first | (simp [entryFrame, mkF, argsToLocals, Value.category]; done) | rfl
set_option maxRecDepth 65536 in
set_option maxHeartbeats 40000000 in
theorem own_rmatP4 (l : Launch) (Z : State) (a0 : Array Value) (hw : ∀ d ∈ tables_1, d.before a0 Z = true) (hst : own_St Z) (ws : List Jvm.Cond) (oa : Addr) (ua : Addr) (vp : Int32) (vc : Int32) (h0 : Heap) (n0 : Nat) (X00 : Old Z n0 h0) (hS : own_Str Z h0 oa ua ([(80 : Int32), (114 : Int32), (111 : Int32), (100 : Int32), (117 : Int32), (99 : Int32), (116 : Int32), (105 : Int32), (111 : Int32), (110 : Int32)] : List Int32)) (hc : ¬ vc < 0 ∧ ¬ (255 : Int32) < vc) :
    own_MF l own_mn0 method_3_code 4 (Option.some Jvm.ClassFile.FieldType.char) ws (own_R 4 0 0 53) #[(.ref oa), (.int 4), (.int vp), (.int vc)] Z h0 (own_QatP4 Z oa ua vp vc h0 n0) := by
  refine own_body (plainFor_of_name own_pn0) (fun m => own_ef_atP4 m oa vp vc ) ?_
  intro p e s m below meth c s₁ hx hby hret hlk hml hZ hown hnm hh X0 e0
  have N0 := Fr.nil n0
  have KK0 : Keep h0 h0 [] := Keep.refl h0 _
  obtain ⟨⟨G1, O2, P5⟩, ⟨G3, O4, rG3⟩, -⟩ := id hst
  refine own_to (V := s₁.setTop (mkF m 2 #[sR oa, sI 4, sI vp, sI vc] [(.ref oa), (.int 4)])) ?_ fun t k => (by
    refine XS.iloadN X0.here hx rfl (hb hby own_d0_0) rfl ?_
    refine XS.aloadN X0.here hx rfl (hb hby own_d0_1) rfl rfl ?_
    exact k)
  obtain ⟨sE102, sd102, sN102, sk102, sv102, sV102, sC102, sK102, sc102, sb102, sl102⟩ := id hS
  obtain ⟨cq101, kq101, q101a, q101b, q101c⟩ := isOf hZ e0 hS.1
  obtain ⟨_, _, ⟨T101, L101, k101, n101⟩, -, X101, ⟨Lc101, hQ101, l101, y101, z101⟩, st101⟩ := X0.virtualBack hx (y := own_mn1) (z := own_mn1) hown (mvT hZ (own_i hw 11 rfl)) (mvT hZ (own_i hw 12 rfl)) (notFace_of_selects (args := #[]) (mvT hZ (own_i hw 14 rfl))) (mvT hZ (own_i hw 14 rfl)) (mvT hZ (own_i hw 13 rfl)) (by decide) (StrChars.Road.lenW (W := 1) hZ (own_hln hw) (kI := 4) (own_i hw 2 rfl) sE102 sV102 sC102 sK102 sc102 sb102 (O2.ext X00.2) P5 sl102 (by decide) (by decide)) q101a q101c (g := (mkF m 2 #[sR oa, sI 4, sI vp, sI vc] [(.ref oa), (.int 4)])) rfl (by rw [hml]; rfl) (Steps.refl _) (argsL := []) (rest := [(.int 4)]) (lenOf own_pd0 rfl) rfl (by show 2 * 0 + _ ≤ _; exact Nat.le_of_eq rfl) (hb hby own_d0_2) (fun _ _ => ⟨rfl, e0, (by decide : 0 + 0 ≤ _), (by decide : 0 + 0 ≤ _)⟩)
  dsimp only [own_R, Pt.U, Pt.locs, Pt.cells, Pt.slots] at X101 l101 y101 z101 st101 hQ101
  subst y101 z101
  obtain ⟨hv101, hL101, hh101⟩ := hQ101
  subst hL101
  have N101 : Fr n0 L101 := by rw [l101]; exact Fr.app N0 (Fr.nil n0)
  subst hv101
  refine own_to ?_ (fun t k => st101.trans k)
  refine own_to (V := T101.setTop (mkF m 10 #[sR oa, sI 4, sI vp, sI vc] [(.int vp), (.int 4)])) ?_ fun t k => (by
    refine XS.icmpNo X101.here hx rfl (hb hby own_d0_5) rfl (tlt ((by decide) : (4 : Int32) < (10 : Int32))).2.1 ?_
    refine XS.iloadN X101.here hx rfl (hb hby own_d0_8) rfl ?_
    refine XS.iloadN X101.here hx rfl (hb hby own_d0_9) rfl ?_
    exact k)
  by_cases hc10_103 : (4 : Int32) = vp
  · skip
    refine own_to (V := T101.setTop (mkF m 22 #[sR oa, sI 4, sI vp, sI vc] [(.int vc)])) ?_ fun t k => (by
      refine XS.icmpNo X101.here hx rfl (hb hby own_d0_10) rfl (teq (hc10_103 : (4 : Int32) = vp)).2 ?_
      refine XS.iloadN X101.here hx rfl (hb hby own_d0_13) rfl ?_
      refine XS.goto X101.here hx rfl (pc0 := 14) (pc' := 22) rfl (hb hby own_d0_14) (by decide) (by decide) ?_
      exact k)
    exact own_retN X101 hx (t := .char) (w := vc) hret (by decide) (own_narC (own_up hc)) hlk (hb hby own_d0_22) (by rw [hh101]; exact (⟨vc, rfl, N101, KK0, (own_at_pos hc10_103), hc⟩)) (by decide) (by decide)
  · skip
    refine own_to (V := T101.setTop (mkF m 19 #[sR oa, sI 4, sI vp, sI vc] [(.int 4), (.ref oa)])) ?_ fun t k => (by
      refine XS.icmpYes X101.here hx rfl (pc0 := 10) (pc' := 17) rfl (hb hby own_d0_10) rfl (feq (hc10_103 : ¬ ((4 : Int32) = vp))).2 (by decide) (by decide) ?_
      refine XS.aloadN X101.here hx rfl (hb hby own_d0_17) rfl rfl ?_
      refine XS.iloadN X101.here hx rfl (hb hby own_d0_18) rfl ?_
      exact k)
    obtain ⟨sN105, sk105, sv105, sE105, sV105, sC105, sK105, sc105, sb105, sl105⟩ := own_Str.latin hS (own_lat2 (own_allS (by decide) (own_allS (by decide) (own_allS (by decide) (own_allS (by decide) (own_allS (by decide) (own_allS (by decide) (own_allS (by decide) (own_allS (by decide) (own_allS (by decide) (own_allS (by decide) own_all0)))))))))))
    obtain ⟨cq104, kq104, q104a, q104b, q104c⟩ := isOf hZ hh101 hS.1
    obtain ⟨_, _, ⟨T104, L104, k104, n104⟩, -, X104, ⟨Lc104, hQ104, l104, y104, z104⟩, st104⟩ := X101.virtualBack hx (y := own_mn2) (z := own_mn2) hown (mvT hZ (own_i hw 33 rfl)) (mvT hZ (own_i hw 34 rfl)) (notFace_of_selects (args := #[]) (mvT hZ (own_i hw 36 rfl))) (mvT hZ (own_i hw 36 rfl)) (mvT hZ (own_i hw 35 rfl)) (by decide) (StrChars.Road.chN (W := 0) hZ (own_hch hw) (kI := 4) (own_i hw 2 rfl) sE105 sV105 sC105 sK105 sc105 sb105 (O2.ext X00.2) P5 (O4.ext X00.2) rG3 sl105 (i := 4) (Nat.le_of_ble_eq_true rfl) (j := (4 : Int32)) rfl (by decide) (by decide)) q104a q104c (g := (mkF m 19 #[sR oa, sI 4, sI vp, sI vc] [(.int 4), (.ref oa)])) rfl (by rw [hml]; rfl) (Steps.refl _) (argsL := [(.int 4)]) (rest := []) (lenOf own_pd1 rfl) rfl (by show 2 * 0 + _ ≤ _; exact Nat.le_of_eq rfl) (hb hby own_d0_19) (fun _ _ => ⟨rfl, hh101, (by decide : 0 + 0 ≤ _), (by decide : 0 + 0 ≤ _)⟩)
    dsimp only [own_R, Pt.U, Pt.locs, Pt.cells, Pt.slots] at X104 l104 y104 z104 st104 hQ104
    subst y104 z104
    obtain ⟨hv104, hL104, hh104⟩ := hQ104
    subst hL104
    have N104 : Fr n0 L104 := by rw [l104]; exact Fr.app N101 (Fr.nil n0)
    subst hv104
    refine own_to ?_ (fun t k => st104.trans k)
    exact own_retN X104 hx (t := .char) (w := (117 : Int32)) hret (by decide) rfl hlk (hb hby own_d0_22) (by rw [hh104]; exact (⟨(117 : Int32), rfl, N104, KK0, (own_at_neg hc10_103), (by decide)⟩)) (by decide) (by decide)
def own_QatP5 (Z : State) (oa : Addr) (ua : Addr) (vp : Int32) (vc : Int32) (h0 : Heap) (n0 : Nat) (v : Option Value) (h : Heap) (L : List Loc) : Prop := (∃ (oc : Int32), v = some (.int oc) ∧ Fr n0 L ∧ Keep h0 h [] ∧ (oc = (own_at (5 : Int32) vp vc (99 : Int32))) ∧ (¬ oc < 0 ∧ ¬ (255 : Int32) < oc))
theorem own_ef_atP5 (m : MethodId) (oa : Addr) (vp : Int32) (vc : Int32)  : entryFrame m #[(.ref oa), (.int 5), (.int vp), (.int vc)] 4 = mkF m 0 #[sR oa, sI 5, sI vp, sI vc] [] := by first | (simp [entryFrame, mkF, argsToLocals, Value.category]; done) | rfl
set_option maxRecDepth 65536 in
set_option maxHeartbeats 40000000 in
theorem own_rmatP5 (l : Launch) (Z : State) (a0 : Array Value) (hw : ∀ d ∈ tables_1, d.before a0 Z = true) (hst : own_St Z) (ws : List Jvm.Cond) (oa : Addr) (ua : Addr) (vp : Int32) (vc : Int32) (h0 : Heap) (n0 : Nat) (X00 : Old Z n0 h0) (hS : own_Str Z h0 oa ua ([(80 : Int32), (114 : Int32), (111 : Int32), (100 : Int32), (117 : Int32), (99 : Int32), (116 : Int32), (105 : Int32), (111 : Int32), (110 : Int32)] : List Int32)) (hc : ¬ vc < 0 ∧ ¬ (255 : Int32) < vc) :
    own_MF l own_mn0 method_3_code 4 (Option.some Jvm.ClassFile.FieldType.char) ws (own_R 4 0 0 53) #[(.ref oa), (.int 5), (.int vp), (.int vc)] Z h0 (own_QatP5 Z oa ua vp vc h0 n0) := by
  refine own_body (plainFor_of_name own_pn0) (fun m => own_ef_atP5 m oa vp vc ) ?_
  intro p e s m below meth c s₁ hx hby hret hlk hml hZ hown hnm hh X0 e0
  have N0 := Fr.nil n0
  have KK0 : Keep h0 h0 [] := Keep.refl h0 _
  obtain ⟨⟨G1, O2, P5⟩, ⟨G3, O4, rG3⟩, -⟩ := id hst
  refine own_to (V := s₁.setTop (mkF m 2 #[sR oa, sI 5, sI vp, sI vc] [(.ref oa), (.int 5)])) ?_ fun t k => (by
    refine XS.iloadN X0.here hx rfl (hb hby own_d0_0) rfl ?_
    refine XS.aloadN X0.here hx rfl (hb hby own_d0_1) rfl rfl ?_
    exact k)
  obtain ⟨sE102, sd102, sN102, sk102, sv102, sV102, sC102, sK102, sc102, sb102, sl102⟩ := id hS
  obtain ⟨cq101, kq101, q101a, q101b, q101c⟩ := isOf hZ e0 hS.1
  obtain ⟨_, _, ⟨T101, L101, k101, n101⟩, -, X101, ⟨Lc101, hQ101, l101, y101, z101⟩, st101⟩ := X0.virtualBack hx (y := own_mn1) (z := own_mn1) hown (mvT hZ (own_i hw 11 rfl)) (mvT hZ (own_i hw 12 rfl)) (notFace_of_selects (args := #[]) (mvT hZ (own_i hw 14 rfl))) (mvT hZ (own_i hw 14 rfl)) (mvT hZ (own_i hw 13 rfl)) (by decide) (StrChars.Road.lenW (W := 1) hZ (own_hln hw) (kI := 4) (own_i hw 2 rfl) sE102 sV102 sC102 sK102 sc102 sb102 (O2.ext X00.2) P5 sl102 (by decide) (by decide)) q101a q101c (g := (mkF m 2 #[sR oa, sI 5, sI vp, sI vc] [(.ref oa), (.int 5)])) rfl (by rw [hml]; rfl) (Steps.refl _) (argsL := []) (rest := [(.int 5)]) (lenOf own_pd0 rfl) rfl (by show 2 * 0 + _ ≤ _; exact Nat.le_of_eq rfl) (hb hby own_d0_2) (fun _ _ => ⟨rfl, e0, (by decide : 0 + 0 ≤ _), (by decide : 0 + 0 ≤ _)⟩)
  dsimp only [own_R, Pt.U, Pt.locs, Pt.cells, Pt.slots] at X101 l101 y101 z101 st101 hQ101
  subst y101 z101
  obtain ⟨hv101, hL101, hh101⟩ := hQ101
  subst hL101
  have N101 : Fr n0 L101 := by rw [l101]; exact Fr.app N0 (Fr.nil n0)
  subst hv101
  refine own_to ?_ (fun t k => st101.trans k)
  refine own_to (V := T101.setTop (mkF m 10 #[sR oa, sI 5, sI vp, sI vc] [(.int vp), (.int 5)])) ?_ fun t k => (by
    refine XS.icmpNo X101.here hx rfl (hb hby own_d0_5) rfl (tlt ((by decide) : (5 : Int32) < (10 : Int32))).2.1 ?_
    refine XS.iloadN X101.here hx rfl (hb hby own_d0_8) rfl ?_
    refine XS.iloadN X101.here hx rfl (hb hby own_d0_9) rfl ?_
    exact k)
  by_cases hc10_103 : (5 : Int32) = vp
  · skip
    refine own_to (V := T101.setTop (mkF m 22 #[sR oa, sI 5, sI vp, sI vc] [(.int vc)])) ?_ fun t k => (by
      refine XS.icmpNo X101.here hx rfl (hb hby own_d0_10) rfl (teq (hc10_103 : (5 : Int32) = vp)).2 ?_
      refine XS.iloadN X101.here hx rfl (hb hby own_d0_13) rfl ?_
      refine XS.goto X101.here hx rfl (pc0 := 14) (pc' := 22) rfl (hb hby own_d0_14) (by decide) (by decide) ?_
      exact k)
    exact own_retN X101 hx (t := .char) (w := vc) hret (by decide) (own_narC (own_up hc)) hlk (hb hby own_d0_22) (by rw [hh101]; exact (⟨vc, rfl, N101, KK0, (own_at_pos hc10_103), hc⟩)) (by decide) (by decide)
  · skip
    refine own_to (V := T101.setTop (mkF m 19 #[sR oa, sI 5, sI vp, sI vc] [(.int 5), (.ref oa)])) ?_ fun t k => (by
      refine XS.icmpYes X101.here hx rfl (pc0 := 10) (pc' := 17) rfl (hb hby own_d0_10) rfl (feq (hc10_103 : ¬ ((5 : Int32) = vp))).2 (by decide) (by decide) ?_
      refine XS.aloadN X101.here hx rfl (hb hby own_d0_17) rfl rfl ?_
      refine XS.iloadN X101.here hx rfl (hb hby own_d0_18) rfl ?_
      exact k)
    obtain ⟨sN105, sk105, sv105, sE105, sV105, sC105, sK105, sc105, sb105, sl105⟩ := own_Str.latin hS (own_lat2 (own_allS (by decide) (own_allS (by decide) (own_allS (by decide) (own_allS (by decide) (own_allS (by decide) (own_allS (by decide) (own_allS (by decide) (own_allS (by decide) (own_allS (by decide) (own_allS (by decide) own_all0)))))))))))
    obtain ⟨cq104, kq104, q104a, q104b, q104c⟩ := isOf hZ hh101 hS.1
    obtain ⟨_, _, ⟨T104, L104, k104, n104⟩, -, X104, ⟨Lc104, hQ104, l104, y104, z104⟩, st104⟩ := X101.virtualBack hx (y := own_mn2) (z := own_mn2) hown (mvT hZ (own_i hw 33 rfl)) (mvT hZ (own_i hw 34 rfl)) (notFace_of_selects (args := #[]) (mvT hZ (own_i hw 36 rfl))) (mvT hZ (own_i hw 36 rfl)) (mvT hZ (own_i hw 35 rfl)) (by decide) (StrChars.Road.chN (W := 0) hZ (own_hch hw) (kI := 4) (own_i hw 2 rfl) sE105 sV105 sC105 sK105 sc105 sb105 (O2.ext X00.2) P5 (O4.ext X00.2) rG3 sl105 (i := 5) (Nat.le_of_ble_eq_true rfl) (j := (5 : Int32)) rfl (by decide) (by decide)) q104a q104c (g := (mkF m 19 #[sR oa, sI 5, sI vp, sI vc] [(.int 5), (.ref oa)])) rfl (by rw [hml]; rfl) (Steps.refl _) (argsL := [(.int 5)]) (rest := []) (lenOf own_pd1 rfl) rfl (by show 2 * 0 + _ ≤ _; exact Nat.le_of_eq rfl) (hb hby own_d0_19) (fun _ _ => ⟨rfl, hh101, (by decide : 0 + 0 ≤ _), (by decide : 0 + 0 ≤ _)⟩)
    dsimp only [own_R, Pt.U, Pt.locs, Pt.cells, Pt.slots] at X104 l104 y104 z104 st104 hQ104
    subst y104 z104
    obtain ⟨hv104, hL104, hh104⟩ := hQ104
    subst hL104
    have N104 : Fr n0 L104 := by rw [l104]; exact Fr.app N101 (Fr.nil n0)
    subst hv104
    refine own_to ?_ (fun t k => st104.trans k)
    exact own_retN X104 hx (t := .char) (w := (99 : Int32)) hret (by decide) rfl hlk (hb hby own_d0_22) (by rw [hh104]; exact (⟨(99 : Int32), rfl, N104, KK0, (own_at_neg hc10_103), (by decide)⟩)) (by decide) (by decide)
def own_QatP6 (Z : State) (oa : Addr) (ua : Addr) (vp : Int32) (vc : Int32) (h0 : Heap) (n0 : Nat) (v : Option Value) (h : Heap) (L : List Loc) : Prop := (∃ (oc : Int32), v = some (.int oc) ∧ Fr n0 L ∧ Keep h0 h [] ∧ (oc = (own_at (6 : Int32) vp vc (116 : Int32))) ∧ (¬ oc < 0 ∧ ¬ (255 : Int32) < oc))
theorem own_ef_atP6 (m : MethodId) (oa : Addr) (vp : Int32) (vc : Int32)  : entryFrame m #[(.ref oa), (.int 6), (.int vp), (.int vc)] 4 = mkF m 0 #[sR oa, sI 6, sI vp, sI vc] [] := by first | (simp [entryFrame, mkF, argsToLocals, Value.category]; done) | rfl
set_option maxRecDepth 65536 in
set_option maxHeartbeats 40000000 in
theorem own_rmatP6 (l : Launch) (Z : State) (a0 : Array Value) (hw : ∀ d ∈ tables_1, d.before a0 Z = true) (hst : own_St Z) (ws : List Jvm.Cond) (oa : Addr) (ua : Addr) (vp : Int32) (vc : Int32) (h0 : Heap) (n0 : Nat) (X00 : Old Z n0 h0) (hS : own_Str Z h0 oa ua ([(80 : Int32), (114 : Int32), (111 : Int32), (100 : Int32), (117 : Int32), (99 : Int32), (116 : Int32), (105 : Int32), (111 : Int32), (110 : Int32)] : List Int32)) (hc : ¬ vc < 0 ∧ ¬ (255 : Int32) < vc) :
    own_MF l own_mn0 method_3_code 4 (Option.some Jvm.ClassFile.FieldType.char) ws (own_R 4 0 0 53) #[(.ref oa), (.int 6), (.int vp), (.int vc)] Z h0 (own_QatP6 Z oa ua vp vc h0 n0) := by
  refine own_body (plainFor_of_name own_pn0) (fun m => own_ef_atP6 m oa vp vc ) ?_
  intro p e s m below meth c s₁ hx hby hret hlk hml hZ hown hnm hh X0 e0
  have N0 := Fr.nil n0
  have KK0 : Keep h0 h0 [] := Keep.refl h0 _
  obtain ⟨⟨G1, O2, P5⟩, ⟨G3, O4, rG3⟩, -⟩ := id hst
  refine own_to (V := s₁.setTop (mkF m 2 #[sR oa, sI 6, sI vp, sI vc] [(.ref oa), (.int 6)])) ?_ fun t k => (by
    refine XS.iloadN X0.here hx rfl (hb hby own_d0_0) rfl ?_
    refine XS.aloadN X0.here hx rfl (hb hby own_d0_1) rfl rfl ?_
    exact k)
  obtain ⟨sE102, sd102, sN102, sk102, sv102, sV102, sC102, sK102, sc102, sb102, sl102⟩ := id hS
  obtain ⟨cq101, kq101, q101a, q101b, q101c⟩ := isOf hZ e0 hS.1
  obtain ⟨_, _, ⟨T101, L101, k101, n101⟩, -, X101, ⟨Lc101, hQ101, l101, y101, z101⟩, st101⟩ := X0.virtualBack hx (y := own_mn1) (z := own_mn1) hown (mvT hZ (own_i hw 11 rfl)) (mvT hZ (own_i hw 12 rfl)) (notFace_of_selects (args := #[]) (mvT hZ (own_i hw 14 rfl))) (mvT hZ (own_i hw 14 rfl)) (mvT hZ (own_i hw 13 rfl)) (by decide) (StrChars.Road.lenW (W := 1) hZ (own_hln hw) (kI := 4) (own_i hw 2 rfl) sE102 sV102 sC102 sK102 sc102 sb102 (O2.ext X00.2) P5 sl102 (by decide) (by decide)) q101a q101c (g := (mkF m 2 #[sR oa, sI 6, sI vp, sI vc] [(.ref oa), (.int 6)])) rfl (by rw [hml]; rfl) (Steps.refl _) (argsL := []) (rest := [(.int 6)]) (lenOf own_pd0 rfl) rfl (by show 2 * 0 + _ ≤ _; exact Nat.le_of_eq rfl) (hb hby own_d0_2) (fun _ _ => ⟨rfl, e0, (by decide : 0 + 0 ≤ _), (by decide : 0 + 0 ≤ _)⟩)
  dsimp only [own_R, Pt.U, Pt.locs, Pt.cells, Pt.slots] at X101 l101 y101 z101 st101 hQ101
  subst y101 z101
  obtain ⟨hv101, hL101, hh101⟩ := hQ101
  subst hL101
  have N101 : Fr n0 L101 := by rw [l101]; exact Fr.app N0 (Fr.nil n0)
  subst hv101
  refine own_to ?_ (fun t k => st101.trans k)
  refine own_to (V := T101.setTop (mkF m 10 #[sR oa, sI 6, sI vp, sI vc] [(.int vp), (.int 6)])) ?_ fun t k => (by
    refine XS.icmpNo X101.here hx rfl (hb hby own_d0_5) rfl (tlt ((by decide) : (6 : Int32) < (10 : Int32))).2.1 ?_
    refine XS.iloadN X101.here hx rfl (hb hby own_d0_8) rfl ?_
    refine XS.iloadN X101.here hx rfl (hb hby own_d0_9) rfl ?_
    exact k)
  by_cases hc10_103 : (6 : Int32) = vp
  · skip
    refine own_to (V := T101.setTop (mkF m 22 #[sR oa, sI 6, sI vp, sI vc] [(.int vc)])) ?_ fun t k => (by
      refine XS.icmpNo X101.here hx rfl (hb hby own_d0_10) rfl (teq (hc10_103 : (6 : Int32) = vp)).2 ?_
      refine XS.iloadN X101.here hx rfl (hb hby own_d0_13) rfl ?_
      refine XS.goto X101.here hx rfl (pc0 := 14) (pc' := 22) rfl (hb hby own_d0_14) (by decide) (by decide) ?_
      exact k)
    exact own_retN X101 hx (t := .char) (w := vc) hret (by decide) (own_narC (own_up hc)) hlk (hb hby own_d0_22) (by rw [hh101]; exact (⟨vc, rfl, N101, KK0, (own_at_pos hc10_103), hc⟩)) (by decide) (by decide)
  · skip
    refine own_to (V := T101.setTop (mkF m 19 #[sR oa, sI 6, sI vp, sI vc] [(.int 6), (.ref oa)])) ?_ fun t k => (by
      refine XS.icmpYes X101.here hx rfl (pc0 := 10) (pc' := 17) rfl (hb hby own_d0_10) rfl (feq (hc10_103 : ¬ ((6 : Int32) = vp))).2 (by decide) (by decide) ?_
      refine XS.aloadN X101.here hx rfl (hb hby own_d0_17) rfl rfl ?_
      refine XS.iloadN X101.here hx rfl (hb hby own_d0_18) rfl ?_
      exact k)
    obtain ⟨sN105, sk105, sv105, sE105, sV105, sC105, sK105, sc105, sb105, sl105⟩ := own_Str.latin hS (own_lat2 (own_allS (by decide) (own_allS (by decide) (own_allS (by decide) (own_allS (by decide) (own_allS (by decide) (own_allS (by decide) (own_allS (by decide) (own_allS (by decide) (own_allS (by decide) (own_allS (by decide) own_all0)))))))))))
    obtain ⟨cq104, kq104, q104a, q104b, q104c⟩ := isOf hZ hh101 hS.1
    obtain ⟨_, _, ⟨T104, L104, k104, n104⟩, -, X104, ⟨Lc104, hQ104, l104, y104, z104⟩, st104⟩ := X101.virtualBack hx (y := own_mn2) (z := own_mn2) hown (mvT hZ (own_i hw 33 rfl)) (mvT hZ (own_i hw 34 rfl)) (notFace_of_selects (args := #[]) (mvT hZ (own_i hw 36 rfl))) (mvT hZ (own_i hw 36 rfl)) (mvT hZ (own_i hw 35 rfl)) (by decide) (StrChars.Road.chN (W := 0) hZ (own_hch hw) (kI := 4) (own_i hw 2 rfl) sE105 sV105 sC105 sK105 sc105 sb105 (O2.ext X00.2) P5 (O4.ext X00.2) rG3 sl105 (i := 6) (Nat.le_of_ble_eq_true rfl) (j := (6 : Int32)) rfl (by decide) (by decide)) q104a q104c (g := (mkF m 19 #[sR oa, sI 6, sI vp, sI vc] [(.int 6), (.ref oa)])) rfl (by rw [hml]; rfl) (Steps.refl _) (argsL := [(.int 6)]) (rest := []) (lenOf own_pd1 rfl) rfl (by show 2 * 0 + _ ≤ _; exact Nat.le_of_eq rfl) (hb hby own_d0_19) (fun _ _ => ⟨rfl, hh101, (by decide : 0 + 0 ≤ _), (by decide : 0 + 0 ≤ _)⟩)
    dsimp only [own_R, Pt.U, Pt.locs, Pt.cells, Pt.slots] at X104 l104 y104 z104 st104 hQ104
    subst y104 z104
    obtain ⟨hv104, hL104, hh104⟩ := hQ104
    subst hL104
    have N104 : Fr n0 L104 := by rw [l104]; exact Fr.app N101 (Fr.nil n0)
    subst hv104
    refine own_to ?_ (fun t k => st104.trans k)
    exact own_retN X104 hx (t := .char) (w := (116 : Int32)) hret (by decide) rfl hlk (hb hby own_d0_22) (by rw [hh104]; exact (⟨(116 : Int32), rfl, N104, KK0, (own_at_neg hc10_103), (by decide)⟩)) (by decide) (by decide)
def own_QatP7 (Z : State) (oa : Addr) (ua : Addr) (vp : Int32) (vc : Int32) (h0 : Heap) (n0 : Nat) (v : Option Value) (h : Heap) (L : List Loc) : Prop := (∃ (oc : Int32), v = some (.int oc) ∧ Fr n0 L ∧ Keep h0 h [] ∧ (oc = (own_at (7 : Int32) vp vc (105 : Int32))) ∧ (¬ oc < 0 ∧ ¬ (255 : Int32) < oc))
theorem own_ef_atP7 (m : MethodId) (oa : Addr) (vp : Int32) (vc : Int32)  : entryFrame m #[(.ref oa), (.int 7), (.int vp), (.int vc)] 4 = mkF m 0 #[sR oa, sI 7, sI vp, sI vc] [] := by first | (simp [entryFrame, mkF, argsToLocals, Value.category]; done) | rfl
set_option maxRecDepth 65536 in
set_option maxHeartbeats 40000000 in
theorem own_rmatP7 (l : Launch) (Z : State) (a0 : Array Value) (hw : ∀ d ∈ tables_1, d.before a0 Z = true) (hst : own_St Z) (ws : List Jvm.Cond) (oa : Addr) (ua : Addr) (vp : Int32) (vc : Int32) (h0 : Heap) (n0 : Nat) (X00 : Old Z n0 h0) (hS : own_Str Z h0 oa ua ([(80 : Int32), (114 : Int32), (111 : Int32), (100 : Int32), (117 : Int32), (99 : Int32), (116 : Int32), (105 : Int32), (111 : Int32), (110 : Int32)] : List Int32)) (hc : ¬ vc < 0 ∧ ¬ (255 : Int32) < vc) :
    own_MF l own_mn0 method_3_code 4 (Option.some Jvm.ClassFile.FieldType.char) ws (own_R 4 0 0 53) #[(.ref oa), (.int 7), (.int vp), (.int vc)] Z h0 (own_QatP7 Z oa ua vp vc h0 n0) := by
  refine own_body (plainFor_of_name own_pn0) (fun m => own_ef_atP7 m oa vp vc ) ?_
  intro p e s m below meth c s₁ hx hby hret hlk hml hZ hown hnm hh X0 e0
  have N0 := Fr.nil n0
  have KK0 : Keep h0 h0 [] := Keep.refl h0 _
  obtain ⟨⟨G1, O2, P5⟩, ⟨G3, O4, rG3⟩, -⟩ := id hst
  refine own_to (V := s₁.setTop (mkF m 2 #[sR oa, sI 7, sI vp, sI vc] [(.ref oa), (.int 7)])) ?_ fun t k => (by
    refine XS.iloadN X0.here hx rfl (hb hby own_d0_0) rfl ?_
    refine XS.aloadN X0.here hx rfl (hb hby own_d0_1) rfl rfl ?_
    exact k)
  obtain ⟨sE102, sd102, sN102, sk102, sv102, sV102, sC102, sK102, sc102, sb102, sl102⟩ := id hS
  obtain ⟨cq101, kq101, q101a, q101b, q101c⟩ := isOf hZ e0 hS.1
  obtain ⟨_, _, ⟨T101, L101, k101, n101⟩, -, X101, ⟨Lc101, hQ101, l101, y101, z101⟩, st101⟩ := X0.virtualBack hx (y := own_mn1) (z := own_mn1) hown (mvT hZ (own_i hw 11 rfl)) (mvT hZ (own_i hw 12 rfl)) (notFace_of_selects (args := #[]) (mvT hZ (own_i hw 14 rfl))) (mvT hZ (own_i hw 14 rfl)) (mvT hZ (own_i hw 13 rfl)) (by decide) (StrChars.Road.lenW (W := 1) hZ (own_hln hw) (kI := 4) (own_i hw 2 rfl) sE102 sV102 sC102 sK102 sc102 sb102 (O2.ext X00.2) P5 sl102 (by decide) (by decide)) q101a q101c (g := (mkF m 2 #[sR oa, sI 7, sI vp, sI vc] [(.ref oa), (.int 7)])) rfl (by rw [hml]; rfl) (Steps.refl _) (argsL := []) (rest := [(.int 7)]) (lenOf own_pd0 rfl) rfl (by show 2 * 0 + _ ≤ _; exact Nat.le_of_eq rfl) (hb hby own_d0_2) (fun _ _ => ⟨rfl, e0, (by decide : 0 + 0 ≤ _), (by decide : 0 + 0 ≤ _)⟩)
  dsimp only [own_R, Pt.U, Pt.locs, Pt.cells, Pt.slots] at X101 l101 y101 z101 st101 hQ101
  subst y101 z101
  obtain ⟨hv101, hL101, hh101⟩ := hQ101
  subst hL101
  have N101 : Fr n0 L101 := by rw [l101]; exact Fr.app N0 (Fr.nil n0)
  subst hv101
  refine own_to ?_ (fun t k => st101.trans k)
  refine own_to (V := T101.setTop (mkF m 10 #[sR oa, sI 7, sI vp, sI vc] [(.int vp), (.int 7)])) ?_ fun t k => (by
    refine XS.icmpNo X101.here hx rfl (hb hby own_d0_5) rfl (tlt ((by decide) : (7 : Int32) < (10 : Int32))).2.1 ?_
    refine XS.iloadN X101.here hx rfl (hb hby own_d0_8) rfl ?_
    refine XS.iloadN X101.here hx rfl (hb hby own_d0_9) rfl ?_
    exact k)
  by_cases hc10_103 : (7 : Int32) = vp
  · skip
    refine own_to (V := T101.setTop (mkF m 22 #[sR oa, sI 7, sI vp, sI vc] [(.int vc)])) ?_ fun t k => (by
      refine XS.icmpNo X101.here hx rfl (hb hby own_d0_10) rfl (teq (hc10_103 : (7 : Int32) = vp)).2 ?_
      refine XS.iloadN X101.here hx rfl (hb hby own_d0_13) rfl ?_
      refine XS.goto X101.here hx rfl (pc0 := 14) (pc' := 22) rfl (hb hby own_d0_14) (by decide) (by decide) ?_
      exact k)
    exact own_retN X101 hx (t := .char) (w := vc) hret (by decide) (own_narC (own_up hc)) hlk (hb hby own_d0_22) (by rw [hh101]; exact (⟨vc, rfl, N101, KK0, (own_at_pos hc10_103), hc⟩)) (by decide) (by decide)
  · skip
    refine own_to (V := T101.setTop (mkF m 19 #[sR oa, sI 7, sI vp, sI vc] [(.int 7), (.ref oa)])) ?_ fun t k => (by
      refine XS.icmpYes X101.here hx rfl (pc0 := 10) (pc' := 17) rfl (hb hby own_d0_10) rfl (feq (hc10_103 : ¬ ((7 : Int32) = vp))).2 (by decide) (by decide) ?_
      refine XS.aloadN X101.here hx rfl (hb hby own_d0_17) rfl rfl ?_
      refine XS.iloadN X101.here hx rfl (hb hby own_d0_18) rfl ?_
      exact k)
    obtain ⟨sN105, sk105, sv105, sE105, sV105, sC105, sK105, sc105, sb105, sl105⟩ := own_Str.latin hS (own_lat2 (own_allS (by decide) (own_allS (by decide) (own_allS (by decide) (own_allS (by decide) (own_allS (by decide) (own_allS (by decide) (own_allS (by decide) (own_allS (by decide) (own_allS (by decide) (own_allS (by decide) own_all0)))))))))))
    obtain ⟨cq104, kq104, q104a, q104b, q104c⟩ := isOf hZ hh101 hS.1
    obtain ⟨_, _, ⟨T104, L104, k104, n104⟩, -, X104, ⟨Lc104, hQ104, l104, y104, z104⟩, st104⟩ := X101.virtualBack hx (y := own_mn2) (z := own_mn2) hown (mvT hZ (own_i hw 33 rfl)) (mvT hZ (own_i hw 34 rfl)) (notFace_of_selects (args := #[]) (mvT hZ (own_i hw 36 rfl))) (mvT hZ (own_i hw 36 rfl)) (mvT hZ (own_i hw 35 rfl)) (by decide) (StrChars.Road.chN (W := 0) hZ (own_hch hw) (kI := 4) (own_i hw 2 rfl) sE105 sV105 sC105 sK105 sc105 sb105 (O2.ext X00.2) P5 (O4.ext X00.2) rG3 sl105 (i := 7) (Nat.le_of_ble_eq_true rfl) (j := (7 : Int32)) rfl (by decide) (by decide)) q104a q104c (g := (mkF m 19 #[sR oa, sI 7, sI vp, sI vc] [(.int 7), (.ref oa)])) rfl (by rw [hml]; rfl) (Steps.refl _) (argsL := [(.int 7)]) (rest := []) (lenOf own_pd1 rfl) rfl (by show 2 * 0 + _ ≤ _; exact Nat.le_of_eq rfl) (hb hby own_d0_19) (fun _ _ => ⟨rfl, hh101, (by decide : 0 + 0 ≤ _), (by decide : 0 + 0 ≤ _)⟩)
    dsimp only [own_R, Pt.U, Pt.locs, Pt.cells, Pt.slots] at X104 l104 y104 z104 st104 hQ104
    subst y104 z104
    obtain ⟨hv104, hL104, hh104⟩ := hQ104
    subst hL104
    have N104 : Fr n0 L104 := by rw [l104]; exact Fr.app N101 (Fr.nil n0)
    subst hv104
    refine own_to ?_ (fun t k => st104.trans k)
    exact own_retN X104 hx (t := .char) (w := (105 : Int32)) hret (by decide) rfl hlk (hb hby own_d0_22) (by rw [hh104]; exact (⟨(105 : Int32), rfl, N104, KK0, (own_at_neg hc10_103), (by decide)⟩)) (by decide) (by decide)
def own_QatP8 (Z : State) (oa : Addr) (ua : Addr) (vp : Int32) (vc : Int32) (h0 : Heap) (n0 : Nat) (v : Option Value) (h : Heap) (L : List Loc) : Prop := (∃ (oc : Int32), v = some (.int oc) ∧ Fr n0 L ∧ Keep h0 h [] ∧ (oc = (own_at (8 : Int32) vp vc (111 : Int32))) ∧ (¬ oc < 0 ∧ ¬ (255 : Int32) < oc))
theorem own_ef_atP8 (m : MethodId) (oa : Addr) (vp : Int32) (vc : Int32)  : entryFrame m #[(.ref oa), (.int 8), (.int vp), (.int vc)] 4 = mkF m 0 #[sR oa, sI 8, sI vp, sI vc] [] := by first | (simp [entryFrame, mkF, argsToLocals, Value.category]; done) | rfl
set_option maxRecDepth 65536 in
set_option maxHeartbeats 40000000 in
theorem own_rmatP8 (l : Launch) (Z : State) (a0 : Array Value) (hw : ∀ d ∈ tables_1, d.before a0 Z = true) (hst : own_St Z) (ws : List Jvm.Cond) (oa : Addr) (ua : Addr) (vp : Int32) (vc : Int32) (h0 : Heap) (n0 : Nat) (X00 : Old Z n0 h0) (hS : own_Str Z h0 oa ua ([(80 : Int32), (114 : Int32), (111 : Int32), (100 : Int32), (117 : Int32), (99 : Int32), (116 : Int32), (105 : Int32), (111 : Int32), (110 : Int32)] : List Int32)) (hc : ¬ vc < 0 ∧ ¬ (255 : Int32) < vc) :
    own_MF l own_mn0 method_3_code 4 (Option.some Jvm.ClassFile.FieldType.char) ws (own_R 4 0 0 53) #[(.ref oa), (.int 8), (.int vp), (.int vc)] Z h0 (own_QatP8 Z oa ua vp vc h0 n0) := by
  refine own_body (plainFor_of_name own_pn0) (fun m => own_ef_atP8 m oa vp vc ) ?_
  intro p e s m below meth c s₁ hx hby hret hlk hml hZ hown hnm hh X0 e0
  have N0 := Fr.nil n0
  have KK0 : Keep h0 h0 [] := Keep.refl h0 _
  obtain ⟨⟨G1, O2, P5⟩, ⟨G3, O4, rG3⟩, -⟩ := id hst
  refine own_to (V := s₁.setTop (mkF m 2 #[sR oa, sI 8, sI vp, sI vc] [(.ref oa), (.int 8)])) ?_ fun t k => (by
    refine XS.iloadN X0.here hx rfl (hb hby own_d0_0) rfl ?_
    refine XS.aloadN X0.here hx rfl (hb hby own_d0_1) rfl rfl ?_
    exact k)
  obtain ⟨sE102, sd102, sN102, sk102, sv102, sV102, sC102, sK102, sc102, sb102, sl102⟩ := id hS
  obtain ⟨cq101, kq101, q101a, q101b, q101c⟩ := isOf hZ e0 hS.1
  obtain ⟨_, _, ⟨T101, L101, k101, n101⟩, -, X101, ⟨Lc101, hQ101, l101, y101, z101⟩, st101⟩ := X0.virtualBack hx (y := own_mn1) (z := own_mn1) hown (mvT hZ (own_i hw 11 rfl)) (mvT hZ (own_i hw 12 rfl)) (notFace_of_selects (args := #[]) (mvT hZ (own_i hw 14 rfl))) (mvT hZ (own_i hw 14 rfl)) (mvT hZ (own_i hw 13 rfl)) (by decide) (StrChars.Road.lenW (W := 1) hZ (own_hln hw) (kI := 4) (own_i hw 2 rfl) sE102 sV102 sC102 sK102 sc102 sb102 (O2.ext X00.2) P5 sl102 (by decide) (by decide)) q101a q101c (g := (mkF m 2 #[sR oa, sI 8, sI vp, sI vc] [(.ref oa), (.int 8)])) rfl (by rw [hml]; rfl) (Steps.refl _) (argsL := []) (rest := [(.int 8)]) (lenOf own_pd0 rfl) rfl (by show 2 * 0 + _ ≤ _; exact Nat.le_of_eq rfl) (hb hby own_d0_2) (fun _ _ => ⟨rfl, e0, (by decide : 0 + 0 ≤ _), (by decide : 0 + 0 ≤ _)⟩)
  dsimp only [own_R, Pt.U, Pt.locs, Pt.cells, Pt.slots] at X101 l101 y101 z101 st101 hQ101
  subst y101 z101
  obtain ⟨hv101, hL101, hh101⟩ := hQ101
  subst hL101
  have N101 : Fr n0 L101 := by rw [l101]; exact Fr.app N0 (Fr.nil n0)
  subst hv101
  refine own_to ?_ (fun t k => st101.trans k)
  refine own_to (V := T101.setTop (mkF m 10 #[sR oa, sI 8, sI vp, sI vc] [(.int vp), (.int 8)])) ?_ fun t k => (by
    refine XS.icmpNo X101.here hx rfl (hb hby own_d0_5) rfl (tlt ((by decide) : (8 : Int32) < (10 : Int32))).2.1 ?_
    refine XS.iloadN X101.here hx rfl (hb hby own_d0_8) rfl ?_
    refine XS.iloadN X101.here hx rfl (hb hby own_d0_9) rfl ?_
    exact k)
  by_cases hc10_103 : (8 : Int32) = vp
  · skip
    refine own_to (V := T101.setTop (mkF m 22 #[sR oa, sI 8, sI vp, sI vc] [(.int vc)])) ?_ fun t k => (by
      refine XS.icmpNo X101.here hx rfl (hb hby own_d0_10) rfl (teq (hc10_103 : (8 : Int32) = vp)).2 ?_
      refine XS.iloadN X101.here hx rfl (hb hby own_d0_13) rfl ?_
      refine XS.goto X101.here hx rfl (pc0 := 14) (pc' := 22) rfl (hb hby own_d0_14) (by decide) (by decide) ?_
      exact k)
    exact own_retN X101 hx (t := .char) (w := vc) hret (by decide) (own_narC (own_up hc)) hlk (hb hby own_d0_22) (by rw [hh101]; exact (⟨vc, rfl, N101, KK0, (own_at_pos hc10_103), hc⟩)) (by decide) (by decide)
  · skip
    refine own_to (V := T101.setTop (mkF m 19 #[sR oa, sI 8, sI vp, sI vc] [(.int 8), (.ref oa)])) ?_ fun t k => (by
      refine XS.icmpYes X101.here hx rfl (pc0 := 10) (pc' := 17) rfl (hb hby own_d0_10) rfl (feq (hc10_103 : ¬ ((8 : Int32) = vp))).2 (by decide) (by decide) ?_
      refine XS.aloadN X101.here hx rfl (hb hby own_d0_17) rfl rfl ?_
      refine XS.iloadN X101.here hx rfl (hb hby own_d0_18) rfl ?_
      exact k)
    obtain ⟨sN105, sk105, sv105, sE105, sV105, sC105, sK105, sc105, sb105, sl105⟩ := own_Str.latin hS (own_lat2 (own_allS (by decide) (own_allS (by decide) (own_allS (by decide) (own_allS (by decide) (own_allS (by decide) (own_allS (by decide) (own_allS (by decide) (own_allS (by decide) (own_allS (by decide) (own_allS (by decide) own_all0)))))))))))
    obtain ⟨cq104, kq104, q104a, q104b, q104c⟩ := isOf hZ hh101 hS.1
    obtain ⟨_, _, ⟨T104, L104, k104, n104⟩, -, X104, ⟨Lc104, hQ104, l104, y104, z104⟩, st104⟩ := X101.virtualBack hx (y := own_mn2) (z := own_mn2) hown (mvT hZ (own_i hw 33 rfl)) (mvT hZ (own_i hw 34 rfl)) (notFace_of_selects (args := #[]) (mvT hZ (own_i hw 36 rfl))) (mvT hZ (own_i hw 36 rfl)) (mvT hZ (own_i hw 35 rfl)) (by decide) (StrChars.Road.chN (W := 0) hZ (own_hch hw) (kI := 4) (own_i hw 2 rfl) sE105 sV105 sC105 sK105 sc105 sb105 (O2.ext X00.2) P5 (O4.ext X00.2) rG3 sl105 (i := 8) (Nat.le_of_ble_eq_true rfl) (j := (8 : Int32)) rfl (by decide) (by decide)) q104a q104c (g := (mkF m 19 #[sR oa, sI 8, sI vp, sI vc] [(.int 8), (.ref oa)])) rfl (by rw [hml]; rfl) (Steps.refl _) (argsL := [(.int 8)]) (rest := []) (lenOf own_pd1 rfl) rfl (by show 2 * 0 + _ ≤ _; exact Nat.le_of_eq rfl) (hb hby own_d0_19) (fun _ _ => ⟨rfl, hh101, (by decide : 0 + 0 ≤ _), (by decide : 0 + 0 ≤ _)⟩)
    dsimp only [own_R, Pt.U, Pt.locs, Pt.cells, Pt.slots] at X104 l104 y104 z104 st104 hQ104
    subst y104 z104
    obtain ⟨hv104, hL104, hh104⟩ := hQ104
    subst hL104
    have N104 : Fr n0 L104 := by rw [l104]; exact Fr.app N101 (Fr.nil n0)
    subst hv104
    refine own_to ?_ (fun t k => st104.trans k)
    exact own_retN X104 hx (t := .char) (w := (111 : Int32)) hret (by decide) rfl hlk (hb hby own_d0_22) (by rw [hh104]; exact (⟨(111 : Int32), rfl, N104, KK0, (own_at_neg hc10_103), (by decide)⟩)) (by decide) (by decide)
def own_QatP9 (Z : State) (oa : Addr) (ua : Addr) (vp : Int32) (vc : Int32) (h0 : Heap) (n0 : Nat) (v : Option Value) (h : Heap) (L : List Loc) : Prop := (∃ (oc : Int32), v = some (.int oc) ∧ Fr n0 L ∧ Keep h0 h [] ∧ (oc = (own_at (9 : Int32) vp vc (110 : Int32))) ∧ (¬ oc < 0 ∧ ¬ (255 : Int32) < oc))
theorem own_ef_atP9 (m : MethodId) (oa : Addr) (vp : Int32) (vc : Int32)  : entryFrame m #[(.ref oa), (.int 9), (.int vp), (.int vc)] 4 = mkF m 0 #[sR oa, sI 9, sI vp, sI vc] [] := by first | (simp [entryFrame, mkF, argsToLocals, Value.category]; done) | rfl
set_option maxRecDepth 65536 in
set_option maxHeartbeats 40000000 in
theorem own_rmatP9 (l : Launch) (Z : State) (a0 : Array Value) (hw : ∀ d ∈ tables_1, d.before a0 Z = true) (hst : own_St Z) (ws : List Jvm.Cond) (oa : Addr) (ua : Addr) (vp : Int32) (vc : Int32) (h0 : Heap) (n0 : Nat) (X00 : Old Z n0 h0) (hS : own_Str Z h0 oa ua ([(80 : Int32), (114 : Int32), (111 : Int32), (100 : Int32), (117 : Int32), (99 : Int32), (116 : Int32), (105 : Int32), (111 : Int32), (110 : Int32)] : List Int32)) (hc : ¬ vc < 0 ∧ ¬ (255 : Int32) < vc) :
    own_MF l own_mn0 method_3_code 4 (Option.some Jvm.ClassFile.FieldType.char) ws (own_R 4 0 0 53) #[(.ref oa), (.int 9), (.int vp), (.int vc)] Z h0 (own_QatP9 Z oa ua vp vc h0 n0) := by
  refine own_body (plainFor_of_name own_pn0) (fun m => own_ef_atP9 m oa vp vc ) ?_
  intro p e s m below meth c s₁ hx hby hret hlk hml hZ hown hnm hh X0 e0
  have N0 := Fr.nil n0
  have KK0 : Keep h0 h0 [] := Keep.refl h0 _
  obtain ⟨⟨G1, O2, P5⟩, ⟨G3, O4, rG3⟩, -⟩ := id hst
  refine own_to (V := s₁.setTop (mkF m 2 #[sR oa, sI 9, sI vp, sI vc] [(.ref oa), (.int 9)])) ?_ fun t k => (by
    refine XS.iloadN X0.here hx rfl (hb hby own_d0_0) rfl ?_
    refine XS.aloadN X0.here hx rfl (hb hby own_d0_1) rfl rfl ?_
    exact k)
  obtain ⟨sE102, sd102, sN102, sk102, sv102, sV102, sC102, sK102, sc102, sb102, sl102⟩ := id hS
  obtain ⟨cq101, kq101, q101a, q101b, q101c⟩ := isOf hZ e0 hS.1
  obtain ⟨_, _, ⟨T101, L101, k101, n101⟩, -, X101, ⟨Lc101, hQ101, l101, y101, z101⟩, st101⟩ := X0.virtualBack hx (y := own_mn1) (z := own_mn1) hown (mvT hZ (own_i hw 11 rfl)) (mvT hZ (own_i hw 12 rfl)) (notFace_of_selects (args := #[]) (mvT hZ (own_i hw 14 rfl))) (mvT hZ (own_i hw 14 rfl)) (mvT hZ (own_i hw 13 rfl)) (by decide) (StrChars.Road.lenW (W := 1) hZ (own_hln hw) (kI := 4) (own_i hw 2 rfl) sE102 sV102 sC102 sK102 sc102 sb102 (O2.ext X00.2) P5 sl102 (by decide) (by decide)) q101a q101c (g := (mkF m 2 #[sR oa, sI 9, sI vp, sI vc] [(.ref oa), (.int 9)])) rfl (by rw [hml]; rfl) (Steps.refl _) (argsL := []) (rest := [(.int 9)]) (lenOf own_pd0 rfl) rfl (by show 2 * 0 + _ ≤ _; exact Nat.le_of_eq rfl) (hb hby own_d0_2) (fun _ _ => ⟨rfl, e0, (by decide : 0 + 0 ≤ _), (by decide : 0 + 0 ≤ _)⟩)
  dsimp only [own_R, Pt.U, Pt.locs, Pt.cells, Pt.slots] at X101 l101 y101 z101 st101 hQ101
  subst y101 z101
  obtain ⟨hv101, hL101, hh101⟩ := hQ101
  subst hL101
  have N101 : Fr n0 L101 := by rw [l101]; exact Fr.app N0 (Fr.nil n0)
  subst hv101
  refine own_to ?_ (fun t k => st101.trans k)
  refine own_to (V := T101.setTop (mkF m 10 #[sR oa, sI 9, sI vp, sI vc] [(.int vp), (.int 9)])) ?_ fun t k => (by
    refine XS.icmpNo X101.here hx rfl (hb hby own_d0_5) rfl (tlt ((by decide) : (9 : Int32) < (10 : Int32))).2.1 ?_
    refine XS.iloadN X101.here hx rfl (hb hby own_d0_8) rfl ?_
    refine XS.iloadN X101.here hx rfl (hb hby own_d0_9) rfl ?_
    exact k)
  by_cases hc10_103 : (9 : Int32) = vp
  · skip
    refine own_to (V := T101.setTop (mkF m 22 #[sR oa, sI 9, sI vp, sI vc] [(.int vc)])) ?_ fun t k => (by
      refine XS.icmpNo X101.here hx rfl (hb hby own_d0_10) rfl (teq (hc10_103 : (9 : Int32) = vp)).2 ?_
      refine XS.iloadN X101.here hx rfl (hb hby own_d0_13) rfl ?_
      refine XS.goto X101.here hx rfl (pc0 := 14) (pc' := 22) rfl (hb hby own_d0_14) (by decide) (by decide) ?_
      exact k)
    exact own_retN X101 hx (t := .char) (w := vc) hret (by decide) (own_narC (own_up hc)) hlk (hb hby own_d0_22) (by rw [hh101]; exact (⟨vc, rfl, N101, KK0, (own_at_pos hc10_103), hc⟩)) (by decide) (by decide)
  · skip
    refine own_to (V := T101.setTop (mkF m 19 #[sR oa, sI 9, sI vp, sI vc] [(.int 9), (.ref oa)])) ?_ fun t k => (by
      refine XS.icmpYes X101.here hx rfl (pc0 := 10) (pc' := 17) rfl (hb hby own_d0_10) rfl (feq (hc10_103 : ¬ ((9 : Int32) = vp))).2 (by decide) (by decide) ?_
      refine XS.aloadN X101.here hx rfl (hb hby own_d0_17) rfl rfl ?_
      refine XS.iloadN X101.here hx rfl (hb hby own_d0_18) rfl ?_
      exact k)
    obtain ⟨sN105, sk105, sv105, sE105, sV105, sC105, sK105, sc105, sb105, sl105⟩ := own_Str.latin hS (own_lat2 (own_allS (by decide) (own_allS (by decide) (own_allS (by decide) (own_allS (by decide) (own_allS (by decide) (own_allS (by decide) (own_allS (by decide) (own_allS (by decide) (own_allS (by decide) (own_allS (by decide) own_all0)))))))))))
    obtain ⟨cq104, kq104, q104a, q104b, q104c⟩ := isOf hZ hh101 hS.1
    obtain ⟨_, _, ⟨T104, L104, k104, n104⟩, -, X104, ⟨Lc104, hQ104, l104, y104, z104⟩, st104⟩ := X101.virtualBack hx (y := own_mn2) (z := own_mn2) hown (mvT hZ (own_i hw 33 rfl)) (mvT hZ (own_i hw 34 rfl)) (notFace_of_selects (args := #[]) (mvT hZ (own_i hw 36 rfl))) (mvT hZ (own_i hw 36 rfl)) (mvT hZ (own_i hw 35 rfl)) (by decide) (StrChars.Road.chN (W := 0) hZ (own_hch hw) (kI := 4) (own_i hw 2 rfl) sE105 sV105 sC105 sK105 sc105 sb105 (O2.ext X00.2) P5 (O4.ext X00.2) rG3 sl105 (i := 9) (Nat.le_of_ble_eq_true rfl) (j := (9 : Int32)) rfl (by decide) (by decide)) q104a q104c (g := (mkF m 19 #[sR oa, sI 9, sI vp, sI vc] [(.int 9), (.ref oa)])) rfl (by rw [hml]; rfl) (Steps.refl _) (argsL := [(.int 9)]) (rest := []) (lenOf own_pd1 rfl) rfl (by show 2 * 0 + _ ≤ _; exact Nat.le_of_eq rfl) (hb hby own_d0_19) (fun _ _ => ⟨rfl, hh101, (by decide : 0 + 0 ≤ _), (by decide : 0 + 0 ≤ _)⟩)
    dsimp only [own_R, Pt.U, Pt.locs, Pt.cells, Pt.slots] at X104 l104 y104 z104 st104 hQ104
    subst y104 z104
    obtain ⟨hv104, hL104, hh104⟩ := hQ104
    subst hL104
    have N104 : Fr n0 L104 := by rw [l104]; exact Fr.app N101 (Fr.nil n0)
    subst hv104
    refine own_to ?_ (fun t k => st104.trans k)
    exact own_retN X104 hx (t := .char) (w := (110 : Int32)) hret (by decide) rfl hlk (hb hby own_d0_22) (by rw [hh104]; exact (⟨(110 : Int32), rfl, N104, KK0, (own_at_neg hc10_103), (by decide)⟩)) (by decide) (by decide)
def own_QatP10 (Z : State) (oa : Addr) (ua : Addr) (vp : Int32) (vc : Int32) (h0 : Heap) (n0 : Nat) (v : Option Value) (h : Heap) (L : List Loc) : Prop := (∃ (oc : Int32), v = some (.int oc) ∧ Fr n0 L ∧ Keep h0 h [] ∧ (oc = vc) ∧ (¬ oc < 0 ∧ ¬ (255 : Int32) < oc))
theorem own_ef_atP10 (m : MethodId) (oa : Addr) (vp : Int32) (vc : Int32)  : entryFrame m #[(.ref oa), (.int 10), (.int vp), (.int vc)] 4 = mkF m 0 #[sR oa, sI 10, sI vp, sI vc] [] := by first | (simp [entryFrame, mkF, argsToLocals, Value.category]; done) | rfl
set_option maxRecDepth 65536 in
set_option maxHeartbeats 40000000 in
theorem own_rmatP10 (l : Launch) (Z : State) (a0 : Array Value) (hw : ∀ d ∈ tables_1, d.before a0 Z = true) (hst : own_St Z) (ws : List Jvm.Cond) (oa : Addr) (ua : Addr) (vp : Int32) (vc : Int32) (h0 : Heap) (n0 : Nat) (X00 : Old Z n0 h0) (hS : own_Str Z h0 oa ua ([(80 : Int32), (114 : Int32), (111 : Int32), (100 : Int32), (117 : Int32), (99 : Int32), (116 : Int32), (105 : Int32), (111 : Int32), (110 : Int32)] : List Int32)) (hc : ¬ vc < 0 ∧ ¬ (255 : Int32) < vc) :
    own_MF l own_mn0 method_3_code 4 (Option.some Jvm.ClassFile.FieldType.char) ws (own_R 2 0 0 26) #[(.ref oa), (.int 10), (.int vp), (.int vc)] Z h0 (own_QatP10 Z oa ua vp vc h0 n0) := by
  refine own_body (plainFor_of_name own_pn0) (fun m => own_ef_atP10 m oa vp vc ) ?_
  intro p e s m below meth c s₁ hx hby hret hlk hml hZ hown hnm hh X0 e0
  have N0 := Fr.nil n0
  have KK0 : Keep h0 h0 [] := Keep.refl h0 _
  obtain ⟨⟨G1, O2, P5⟩, ⟨G3, O4, rG3⟩, -⟩ := id hst
  refine own_to (V := s₁.setTop (mkF m 2 #[sR oa, sI 10, sI vp, sI vc] [(.ref oa), (.int 10)])) ?_ fun t k => (by
    refine XS.iloadN X0.here hx rfl (hb hby own_d0_0) rfl ?_
    refine XS.aloadN X0.here hx rfl (hb hby own_d0_1) rfl rfl ?_
    exact k)
  obtain ⟨sE102, sd102, sN102, sk102, sv102, sV102, sC102, sK102, sc102, sb102, sl102⟩ := id hS
  obtain ⟨cq101, kq101, q101a, q101b, q101c⟩ := isOf hZ e0 hS.1
  obtain ⟨_, _, ⟨T101, L101, k101, n101⟩, -, X101, ⟨Lc101, hQ101, l101, y101, z101⟩, st101⟩ := X0.virtualBack hx (y := own_mn1) (z := own_mn1) hown (mvT hZ (own_i hw 11 rfl)) (mvT hZ (own_i hw 12 rfl)) (notFace_of_selects (args := #[]) (mvT hZ (own_i hw 14 rfl))) (mvT hZ (own_i hw 14 rfl)) (mvT hZ (own_i hw 13 rfl)) (by decide) (StrChars.Road.lenW (W := 1) hZ (own_hln hw) (kI := 4) (own_i hw 2 rfl) sE102 sV102 sC102 sK102 sc102 sb102 (O2.ext X00.2) P5 sl102 (by decide) (by decide)) q101a q101c (g := (mkF m 2 #[sR oa, sI 10, sI vp, sI vc] [(.ref oa), (.int 10)])) rfl (by rw [hml]; rfl) (Steps.refl _) (argsL := []) (rest := [(.int 10)]) (lenOf own_pd0 rfl) rfl (by show 2 * 0 + _ ≤ _; exact Nat.le_of_eq rfl) (hb hby own_d0_2) (fun _ _ => ⟨rfl, e0, (by decide : 0 + 0 ≤ _), (by decide : 0 + 0 ≤ _)⟩)
  dsimp only [own_R, Pt.U, Pt.locs, Pt.cells, Pt.slots] at X101 l101 y101 z101 st101 hQ101
  subst y101 z101
  obtain ⟨hv101, hL101, hh101⟩ := hQ101
  subst hL101
  have N101 : Fr n0 L101 := by rw [l101]; exact Fr.app N0 (Fr.nil n0)
  subst hv101
  refine own_to ?_ (fun t k => st101.trans k)
  refine own_to (V := T101.setTop (mkF m 24 #[sR oa, sI 10, sI vp, sI vc] [(.int vc)])) ?_ fun t k => (by
    refine XS.icmpYes X101.here hx rfl (pc0 := 5) (pc' := 23) rfl (hb hby own_d0_5) rfl (flt ((by decide) : ¬ ((10 : Int32) < (10 : Int32)))).2.1 (by decide) (by decide) ?_
    refine XS.iloadN X101.here hx rfl (hb hby own_d0_23) rfl ?_
    exact k)
  exact own_retN X101 hx (t := .char) (w := vc) hret (by decide) (own_narC (own_up hc)) hlk (hb hby own_d0_24) (by rw [hh101]; exact (⟨vc, rfl, N101, KK0, rfl, hc⟩)) (by decide) (by decide)
def own_QatD0 (Z : State) (oa : Addr) (ua : Addr) (vp : Int32) (vc : Int32) (h0 : Heap) (n0 : Nat) (v : Option Value) (h : Heap) (L : List Loc) : Prop := (∃ (oc : Int32), v = some (.int oc) ∧ Fr n0 L ∧ Keep h0 h [] ∧ (oc = (own_at (0 : Int32) vp vc (68 : Int32))) ∧ (¬ oc < 0 ∧ ¬ (255 : Int32) < oc))
theorem own_ef_atD0 (m : MethodId) (oa : Addr) (vp : Int32) (vc : Int32)  : entryFrame m #[(.ref oa), (.int 0), (.int vp), (.int vc)] 4 = mkF m 0 #[sR oa, sI 0, sI vp, sI vc] [] := by first | (simp [entryFrame, mkF, argsToLocals, Value.category]; done) | rfl
set_option maxRecDepth 65536 in
set_option maxHeartbeats 40000000 in
theorem own_rmatD0 (l : Launch) (Z : State) (a0 : Array Value) (hw : ∀ d ∈ tables_1, d.before a0 Z = true) (hst : own_St Z) (ws : List Jvm.Cond) (oa : Addr) (ua : Addr) (vp : Int32) (vc : Int32) (h0 : Heap) (n0 : Nat) (X00 : Old Z n0 h0) (hS : own_Str Z h0 oa ua ([(68 : Int32), (101 : Int32), (118 : Int32), (101 : Int32), (108 : Int32), (111 : Int32), (112 : Int32), (109 : Int32), (101 : Int32), (110 : Int32), (116 : Int32)] : List Int32)) (hc : ¬ vc < 0 ∧ ¬ (255 : Int32) < vc) :
    own_MF l own_mn0 method_3_code 4 (Option.some Jvm.ClassFile.FieldType.char) ws (own_R 4 0 0 53) #[(.ref oa), (.int 0), (.int vp), (.int vc)] Z h0 (own_QatD0 Z oa ua vp vc h0 n0) := by
  refine own_body (plainFor_of_name own_pn0) (fun m => own_ef_atD0 m oa vp vc ) ?_
  intro p e s m below meth c s₁ hx hby hret hlk hml hZ hown hnm hh X0 e0
  have N0 := Fr.nil n0
  have KK0 : Keep h0 h0 [] := Keep.refl h0 _
  obtain ⟨⟨G1, O2, P5⟩, ⟨G3, O4, rG3⟩, -⟩ := id hst
  refine own_to (V := s₁.setTop (mkF m 2 #[sR oa, sI 0, sI vp, sI vc] [(.ref oa), (.int 0)])) ?_ fun t k => (by
    refine XS.iloadN X0.here hx rfl (hb hby own_d0_0) rfl ?_
    refine XS.aloadN X0.here hx rfl (hb hby own_d0_1) rfl rfl ?_
    exact k)
  obtain ⟨sE102, sd102, sN102, sk102, sv102, sV102, sC102, sK102, sc102, sb102, sl102⟩ := id hS
  obtain ⟨cq101, kq101, q101a, q101b, q101c⟩ := isOf hZ e0 hS.1
  obtain ⟨_, _, ⟨T101, L101, k101, n101⟩, -, X101, ⟨Lc101, hQ101, l101, y101, z101⟩, st101⟩ := X0.virtualBack hx (y := own_mn1) (z := own_mn1) hown (mvT hZ (own_i hw 11 rfl)) (mvT hZ (own_i hw 12 rfl)) (notFace_of_selects (args := #[]) (mvT hZ (own_i hw 14 rfl))) (mvT hZ (own_i hw 14 rfl)) (mvT hZ (own_i hw 13 rfl)) (by decide) (StrChars.Road.lenW (W := 1) hZ (own_hln hw) (kI := 4) (own_i hw 2 rfl) sE102 sV102 sC102 sK102 sc102 sb102 (O2.ext X00.2) P5 sl102 (by decide) (by decide)) q101a q101c (g := (mkF m 2 #[sR oa, sI 0, sI vp, sI vc] [(.ref oa), (.int 0)])) rfl (by rw [hml]; rfl) (Steps.refl _) (argsL := []) (rest := [(.int 0)]) (lenOf own_pd0 rfl) rfl (by show 2 * 0 + _ ≤ _; exact Nat.le_of_eq rfl) (hb hby own_d0_2) (fun _ _ => ⟨rfl, e0, (by decide : 0 + 0 ≤ _), (by decide : 0 + 0 ≤ _)⟩)
  dsimp only [own_R, Pt.U, Pt.locs, Pt.cells, Pt.slots] at X101 l101 y101 z101 st101 hQ101
  subst y101 z101
  obtain ⟨hv101, hL101, hh101⟩ := hQ101
  subst hL101
  have N101 : Fr n0 L101 := by rw [l101]; exact Fr.app N0 (Fr.nil n0)
  subst hv101
  refine own_to ?_ (fun t k => st101.trans k)
  refine own_to (V := T101.setTop (mkF m 10 #[sR oa, sI 0, sI vp, sI vc] [(.int vp), (.int 0)])) ?_ fun t k => (by
    refine XS.icmpNo X101.here hx rfl (hb hby own_d0_5) rfl (tlt ((by decide) : (0 : Int32) < (11 : Int32))).2.1 ?_
    refine XS.iloadN X101.here hx rfl (hb hby own_d0_8) rfl ?_
    refine XS.iloadN X101.here hx rfl (hb hby own_d0_9) rfl ?_
    exact k)
  by_cases hc10_103 : (0 : Int32) = vp
  · skip
    refine own_to (V := T101.setTop (mkF m 22 #[sR oa, sI 0, sI vp, sI vc] [(.int vc)])) ?_ fun t k => (by
      refine XS.icmpNo X101.here hx rfl (hb hby own_d0_10) rfl (teq (hc10_103 : (0 : Int32) = vp)).2 ?_
      refine XS.iloadN X101.here hx rfl (hb hby own_d0_13) rfl ?_
      refine XS.goto X101.here hx rfl (pc0 := 14) (pc' := 22) rfl (hb hby own_d0_14) (by decide) (by decide) ?_
      exact k)
    exact own_retN X101 hx (t := .char) (w := vc) hret (by decide) (own_narC (own_up hc)) hlk (hb hby own_d0_22) (by rw [hh101]; exact (⟨vc, rfl, N101, KK0, (own_at_pos hc10_103), hc⟩)) (by decide) (by decide)
  · skip
    refine own_to (V := T101.setTop (mkF m 19 #[sR oa, sI 0, sI vp, sI vc] [(.int 0), (.ref oa)])) ?_ fun t k => (by
      refine XS.icmpYes X101.here hx rfl (pc0 := 10) (pc' := 17) rfl (hb hby own_d0_10) rfl (feq (hc10_103 : ¬ ((0 : Int32) = vp))).2 (by decide) (by decide) ?_
      refine XS.aloadN X101.here hx rfl (hb hby own_d0_17) rfl rfl ?_
      refine XS.iloadN X101.here hx rfl (hb hby own_d0_18) rfl ?_
      exact k)
    obtain ⟨sN105, sk105, sv105, sE105, sV105, sC105, sK105, sc105, sb105, sl105⟩ := own_Str.latin hS (own_lat2 (own_allS (by decide) (own_allS (by decide) (own_allS (by decide) (own_allS (by decide) (own_allS (by decide) (own_allS (by decide) (own_allS (by decide) (own_allS (by decide) (own_allS (by decide) (own_allS (by decide) (own_allS (by decide) own_all0))))))))))))
    obtain ⟨cq104, kq104, q104a, q104b, q104c⟩ := isOf hZ hh101 hS.1
    obtain ⟨_, _, ⟨T104, L104, k104, n104⟩, -, X104, ⟨Lc104, hQ104, l104, y104, z104⟩, st104⟩ := X101.virtualBack hx (y := own_mn2) (z := own_mn2) hown (mvT hZ (own_i hw 33 rfl)) (mvT hZ (own_i hw 34 rfl)) (notFace_of_selects (args := #[]) (mvT hZ (own_i hw 36 rfl))) (mvT hZ (own_i hw 36 rfl)) (mvT hZ (own_i hw 35 rfl)) (by decide) (StrChars.Road.chN (W := 0) hZ (own_hch hw) (kI := 4) (own_i hw 2 rfl) sE105 sV105 sC105 sK105 sc105 sb105 (O2.ext X00.2) P5 (O4.ext X00.2) rG3 sl105 (i := 0) (Nat.le_of_ble_eq_true rfl) (j := (0 : Int32)) rfl (by decide) (by decide)) q104a q104c (g := (mkF m 19 #[sR oa, sI 0, sI vp, sI vc] [(.int 0), (.ref oa)])) rfl (by rw [hml]; rfl) (Steps.refl _) (argsL := [(.int 0)]) (rest := []) (lenOf own_pd1 rfl) rfl (by show 2 * 0 + _ ≤ _; exact Nat.le_of_eq rfl) (hb hby own_d0_19) (fun _ _ => ⟨rfl, hh101, (by decide : 0 + 0 ≤ _), (by decide : 0 + 0 ≤ _)⟩)
    dsimp only [own_R, Pt.U, Pt.locs, Pt.cells, Pt.slots] at X104 l104 y104 z104 st104 hQ104
    subst y104 z104
    obtain ⟨hv104, hL104, hh104⟩ := hQ104
    subst hL104
    have N104 : Fr n0 L104 := by rw [l104]; exact Fr.app N101 (Fr.nil n0)
    subst hv104
    refine own_to ?_ (fun t k => st104.trans k)
    exact own_retN X104 hx (t := .char) (w := (68 : Int32)) hret (by decide) rfl hlk (hb hby own_d0_22) (by rw [hh104]; exact (⟨(68 : Int32), rfl, N104, KK0, (own_at_neg hc10_103), (by decide)⟩)) (by decide) (by decide)
def own_QatD1 (Z : State) (oa : Addr) (ua : Addr) (vp : Int32) (vc : Int32) (h0 : Heap) (n0 : Nat) (v : Option Value) (h : Heap) (L : List Loc) : Prop := (∃ (oc : Int32), v = some (.int oc) ∧ Fr n0 L ∧ Keep h0 h [] ∧ (oc = (own_at (1 : Int32) vp vc (101 : Int32))) ∧ (¬ oc < 0 ∧ ¬ (255 : Int32) < oc))
theorem own_ef_atD1 (m : MethodId) (oa : Addr) (vp : Int32) (vc : Int32)  : entryFrame m #[(.ref oa), (.int 1), (.int vp), (.int vc)] 4 = mkF m 0 #[sR oa, sI 1, sI vp, sI vc] [] := by first | (simp [entryFrame, mkF, argsToLocals, Value.category]; done) | rfl
set_option maxRecDepth 65536 in
set_option maxHeartbeats 40000000 in
theorem own_rmatD1 (l : Launch) (Z : State) (a0 : Array Value) (hw : ∀ d ∈ tables_1, d.before a0 Z = true) (hst : own_St Z) (ws : List Jvm.Cond) (oa : Addr) (ua : Addr) (vp : Int32) (vc : Int32) (h0 : Heap) (n0 : Nat) (X00 : Old Z n0 h0) (hS : own_Str Z h0 oa ua ([(68 : Int32), (101 : Int32), (118 : Int32), (101 : Int32), (108 : Int32), (111 : Int32), (112 : Int32), (109 : Int32), (101 : Int32), (110 : Int32), (116 : Int32)] : List Int32)) (hc : ¬ vc < 0 ∧ ¬ (255 : Int32) < vc) :
    own_MF l own_mn0 method_3_code 4 (Option.some Jvm.ClassFile.FieldType.char) ws (own_R 4 0 0 53) #[(.ref oa), (.int 1), (.int vp), (.int vc)] Z h0 (own_QatD1 Z oa ua vp vc h0 n0) := by
  refine own_body (plainFor_of_name own_pn0) (fun m => own_ef_atD1 m oa vp vc ) ?_
  intro p e s m below meth c s₁ hx hby hret hlk hml hZ hown hnm hh X0 e0
  have N0 := Fr.nil n0
  have KK0 : Keep h0 h0 [] := Keep.refl h0 _
  obtain ⟨⟨G1, O2, P5⟩, ⟨G3, O4, rG3⟩, -⟩ := id hst
  refine own_to (V := s₁.setTop (mkF m 2 #[sR oa, sI 1, sI vp, sI vc] [(.ref oa), (.int 1)])) ?_ fun t k => (by
    refine XS.iloadN X0.here hx rfl (hb hby own_d0_0) rfl ?_
    refine XS.aloadN X0.here hx rfl (hb hby own_d0_1) rfl rfl ?_
    exact k)
  obtain ⟨sE102, sd102, sN102, sk102, sv102, sV102, sC102, sK102, sc102, sb102, sl102⟩ := id hS
  obtain ⟨cq101, kq101, q101a, q101b, q101c⟩ := isOf hZ e0 hS.1
  obtain ⟨_, _, ⟨T101, L101, k101, n101⟩, -, X101, ⟨Lc101, hQ101, l101, y101, z101⟩, st101⟩ := X0.virtualBack hx (y := own_mn1) (z := own_mn1) hown (mvT hZ (own_i hw 11 rfl)) (mvT hZ (own_i hw 12 rfl)) (notFace_of_selects (args := #[]) (mvT hZ (own_i hw 14 rfl))) (mvT hZ (own_i hw 14 rfl)) (mvT hZ (own_i hw 13 rfl)) (by decide) (StrChars.Road.lenW (W := 1) hZ (own_hln hw) (kI := 4) (own_i hw 2 rfl) sE102 sV102 sC102 sK102 sc102 sb102 (O2.ext X00.2) P5 sl102 (by decide) (by decide)) q101a q101c (g := (mkF m 2 #[sR oa, sI 1, sI vp, sI vc] [(.ref oa), (.int 1)])) rfl (by rw [hml]; rfl) (Steps.refl _) (argsL := []) (rest := [(.int 1)]) (lenOf own_pd0 rfl) rfl (by show 2 * 0 + _ ≤ _; exact Nat.le_of_eq rfl) (hb hby own_d0_2) (fun _ _ => ⟨rfl, e0, (by decide : 0 + 0 ≤ _), (by decide : 0 + 0 ≤ _)⟩)
  dsimp only [own_R, Pt.U, Pt.locs, Pt.cells, Pt.slots] at X101 l101 y101 z101 st101 hQ101
  subst y101 z101
  obtain ⟨hv101, hL101, hh101⟩ := hQ101
  subst hL101
  have N101 : Fr n0 L101 := by rw [l101]; exact Fr.app N0 (Fr.nil n0)
  subst hv101
  refine own_to ?_ (fun t k => st101.trans k)
  refine own_to (V := T101.setTop (mkF m 10 #[sR oa, sI 1, sI vp, sI vc] [(.int vp), (.int 1)])) ?_ fun t k => (by
    refine XS.icmpNo X101.here hx rfl (hb hby own_d0_5) rfl (tlt ((by decide) : (1 : Int32) < (11 : Int32))).2.1 ?_
    refine XS.iloadN X101.here hx rfl (hb hby own_d0_8) rfl ?_
    refine XS.iloadN X101.here hx rfl (hb hby own_d0_9) rfl ?_
    exact k)
  by_cases hc10_103 : (1 : Int32) = vp
  · skip
    refine own_to (V := T101.setTop (mkF m 22 #[sR oa, sI 1, sI vp, sI vc] [(.int vc)])) ?_ fun t k => (by
      refine XS.icmpNo X101.here hx rfl (hb hby own_d0_10) rfl (teq (hc10_103 : (1 : Int32) = vp)).2 ?_
      refine XS.iloadN X101.here hx rfl (hb hby own_d0_13) rfl ?_
      refine XS.goto X101.here hx rfl (pc0 := 14) (pc' := 22) rfl (hb hby own_d0_14) (by decide) (by decide) ?_
      exact k)
    exact own_retN X101 hx (t := .char) (w := vc) hret (by decide) (own_narC (own_up hc)) hlk (hb hby own_d0_22) (by rw [hh101]; exact (⟨vc, rfl, N101, KK0, (own_at_pos hc10_103), hc⟩)) (by decide) (by decide)
  · skip
    refine own_to (V := T101.setTop (mkF m 19 #[sR oa, sI 1, sI vp, sI vc] [(.int 1), (.ref oa)])) ?_ fun t k => (by
      refine XS.icmpYes X101.here hx rfl (pc0 := 10) (pc' := 17) rfl (hb hby own_d0_10) rfl (feq (hc10_103 : ¬ ((1 : Int32) = vp))).2 (by decide) (by decide) ?_
      refine XS.aloadN X101.here hx rfl (hb hby own_d0_17) rfl rfl ?_
      refine XS.iloadN X101.here hx rfl (hb hby own_d0_18) rfl ?_
      exact k)
    obtain ⟨sN105, sk105, sv105, sE105, sV105, sC105, sK105, sc105, sb105, sl105⟩ := own_Str.latin hS (own_lat2 (own_allS (by decide) (own_allS (by decide) (own_allS (by decide) (own_allS (by decide) (own_allS (by decide) (own_allS (by decide) (own_allS (by decide) (own_allS (by decide) (own_allS (by decide) (own_allS (by decide) (own_allS (by decide) own_all0))))))))))))
    obtain ⟨cq104, kq104, q104a, q104b, q104c⟩ := isOf hZ hh101 hS.1
    obtain ⟨_, _, ⟨T104, L104, k104, n104⟩, -, X104, ⟨Lc104, hQ104, l104, y104, z104⟩, st104⟩ := X101.virtualBack hx (y := own_mn2) (z := own_mn2) hown (mvT hZ (own_i hw 33 rfl)) (mvT hZ (own_i hw 34 rfl)) (notFace_of_selects (args := #[]) (mvT hZ (own_i hw 36 rfl))) (mvT hZ (own_i hw 36 rfl)) (mvT hZ (own_i hw 35 rfl)) (by decide) (StrChars.Road.chN (W := 0) hZ (own_hch hw) (kI := 4) (own_i hw 2 rfl) sE105 sV105 sC105 sK105 sc105 sb105 (O2.ext X00.2) P5 (O4.ext X00.2) rG3 sl105 (i := 1) (Nat.le_of_ble_eq_true rfl) (j := (1 : Int32)) rfl (by decide) (by decide)) q104a q104c (g := (mkF m 19 #[sR oa, sI 1, sI vp, sI vc] [(.int 1), (.ref oa)])) rfl (by rw [hml]; rfl) (Steps.refl _) (argsL := [(.int 1)]) (rest := []) (lenOf own_pd1 rfl) rfl (by show 2 * 0 + _ ≤ _; exact Nat.le_of_eq rfl) (hb hby own_d0_19) (fun _ _ => ⟨rfl, hh101, (by decide : 0 + 0 ≤ _), (by decide : 0 + 0 ≤ _)⟩)
    dsimp only [own_R, Pt.U, Pt.locs, Pt.cells, Pt.slots] at X104 l104 y104 z104 st104 hQ104
    subst y104 z104
    obtain ⟨hv104, hL104, hh104⟩ := hQ104
    subst hL104
    have N104 : Fr n0 L104 := by rw [l104]; exact Fr.app N101 (Fr.nil n0)
    subst hv104
    refine own_to ?_ (fun t k => st104.trans k)
    exact own_retN X104 hx (t := .char) (w := (101 : Int32)) hret (by decide) rfl hlk (hb hby own_d0_22) (by rw [hh104]; exact (⟨(101 : Int32), rfl, N104, KK0, (own_at_neg hc10_103), (by decide)⟩)) (by decide) (by decide)
def own_QatD2 (Z : State) (oa : Addr) (ua : Addr) (vp : Int32) (vc : Int32) (h0 : Heap) (n0 : Nat) (v : Option Value) (h : Heap) (L : List Loc) : Prop := (∃ (oc : Int32), v = some (.int oc) ∧ Fr n0 L ∧ Keep h0 h [] ∧ (oc = (own_at (2 : Int32) vp vc (118 : Int32))) ∧ (¬ oc < 0 ∧ ¬ (255 : Int32) < oc))
theorem own_ef_atD2 (m : MethodId) (oa : Addr) (vp : Int32) (vc : Int32)  : entryFrame m #[(.ref oa), (.int 2), (.int vp), (.int vc)] 4 = mkF m 0 #[sR oa, sI 2, sI vp, sI vc] [] := by first | (simp [entryFrame, mkF, argsToLocals, Value.category]; done) | rfl
set_option maxRecDepth 65536 in
set_option maxHeartbeats 40000000 in
theorem own_rmatD2 (l : Launch) (Z : State) (a0 : Array Value) (hw : ∀ d ∈ tables_1, d.before a0 Z = true) (hst : own_St Z) (ws : List Jvm.Cond) (oa : Addr) (ua : Addr) (vp : Int32) (vc : Int32) (h0 : Heap) (n0 : Nat) (X00 : Old Z n0 h0) (hS : own_Str Z h0 oa ua ([(68 : Int32), (101 : Int32), (118 : Int32), (101 : Int32), (108 : Int32), (111 : Int32), (112 : Int32), (109 : Int32), (101 : Int32), (110 : Int32), (116 : Int32)] : List Int32)) (hc : ¬ vc < 0 ∧ ¬ (255 : Int32) < vc) :
    own_MF l own_mn0 method_3_code 4 (Option.some Jvm.ClassFile.FieldType.char) ws (own_R 4 0 0 53) #[(.ref oa), (.int 2), (.int vp), (.int vc)] Z h0 (own_QatD2 Z oa ua vp vc h0 n0) := by
  refine own_body (plainFor_of_name own_pn0) (fun m => own_ef_atD2 m oa vp vc ) ?_
  intro p e s m below meth c s₁ hx hby hret hlk hml hZ hown hnm hh X0 e0
  have N0 := Fr.nil n0
  have KK0 : Keep h0 h0 [] := Keep.refl h0 _
  obtain ⟨⟨G1, O2, P5⟩, ⟨G3, O4, rG3⟩, -⟩ := id hst
  refine own_to (V := s₁.setTop (mkF m 2 #[sR oa, sI 2, sI vp, sI vc] [(.ref oa), (.int 2)])) ?_ fun t k => (by
    refine XS.iloadN X0.here hx rfl (hb hby own_d0_0) rfl ?_
    refine XS.aloadN X0.here hx rfl (hb hby own_d0_1) rfl rfl ?_
    exact k)
  obtain ⟨sE102, sd102, sN102, sk102, sv102, sV102, sC102, sK102, sc102, sb102, sl102⟩ := id hS
  obtain ⟨cq101, kq101, q101a, q101b, q101c⟩ := isOf hZ e0 hS.1
  obtain ⟨_, _, ⟨T101, L101, k101, n101⟩, -, X101, ⟨Lc101, hQ101, l101, y101, z101⟩, st101⟩ := X0.virtualBack hx (y := own_mn1) (z := own_mn1) hown (mvT hZ (own_i hw 11 rfl)) (mvT hZ (own_i hw 12 rfl)) (notFace_of_selects (args := #[]) (mvT hZ (own_i hw 14 rfl))) (mvT hZ (own_i hw 14 rfl)) (mvT hZ (own_i hw 13 rfl)) (by decide) (StrChars.Road.lenW (W := 1) hZ (own_hln hw) (kI := 4) (own_i hw 2 rfl) sE102 sV102 sC102 sK102 sc102 sb102 (O2.ext X00.2) P5 sl102 (by decide) (by decide)) q101a q101c (g := (mkF m 2 #[sR oa, sI 2, sI vp, sI vc] [(.ref oa), (.int 2)])) rfl (by rw [hml]; rfl) (Steps.refl _) (argsL := []) (rest := [(.int 2)]) (lenOf own_pd0 rfl) rfl (by show 2 * 0 + _ ≤ _; exact Nat.le_of_eq rfl) (hb hby own_d0_2) (fun _ _ => ⟨rfl, e0, (by decide : 0 + 0 ≤ _), (by decide : 0 + 0 ≤ _)⟩)
  dsimp only [own_R, Pt.U, Pt.locs, Pt.cells, Pt.slots] at X101 l101 y101 z101 st101 hQ101
  subst y101 z101
  obtain ⟨hv101, hL101, hh101⟩ := hQ101
  subst hL101
  have N101 : Fr n0 L101 := by rw [l101]; exact Fr.app N0 (Fr.nil n0)
  subst hv101
  refine own_to ?_ (fun t k => st101.trans k)
  refine own_to (V := T101.setTop (mkF m 10 #[sR oa, sI 2, sI vp, sI vc] [(.int vp), (.int 2)])) ?_ fun t k => (by
    refine XS.icmpNo X101.here hx rfl (hb hby own_d0_5) rfl (tlt ((by decide) : (2 : Int32) < (11 : Int32))).2.1 ?_
    refine XS.iloadN X101.here hx rfl (hb hby own_d0_8) rfl ?_
    refine XS.iloadN X101.here hx rfl (hb hby own_d0_9) rfl ?_
    exact k)
  by_cases hc10_103 : (2 : Int32) = vp
  · skip
    refine own_to (V := T101.setTop (mkF m 22 #[sR oa, sI 2, sI vp, sI vc] [(.int vc)])) ?_ fun t k => (by
      refine XS.icmpNo X101.here hx rfl (hb hby own_d0_10) rfl (teq (hc10_103 : (2 : Int32) = vp)).2 ?_
      refine XS.iloadN X101.here hx rfl (hb hby own_d0_13) rfl ?_
      refine XS.goto X101.here hx rfl (pc0 := 14) (pc' := 22) rfl (hb hby own_d0_14) (by decide) (by decide) ?_
      exact k)
    exact own_retN X101 hx (t := .char) (w := vc) hret (by decide) (own_narC (own_up hc)) hlk (hb hby own_d0_22) (by rw [hh101]; exact (⟨vc, rfl, N101, KK0, (own_at_pos hc10_103), hc⟩)) (by decide) (by decide)
  · skip
    refine own_to (V := T101.setTop (mkF m 19 #[sR oa, sI 2, sI vp, sI vc] [(.int 2), (.ref oa)])) ?_ fun t k => (by
      refine XS.icmpYes X101.here hx rfl (pc0 := 10) (pc' := 17) rfl (hb hby own_d0_10) rfl (feq (hc10_103 : ¬ ((2 : Int32) = vp))).2 (by decide) (by decide) ?_
      refine XS.aloadN X101.here hx rfl (hb hby own_d0_17) rfl rfl ?_
      refine XS.iloadN X101.here hx rfl (hb hby own_d0_18) rfl ?_
      exact k)
    obtain ⟨sN105, sk105, sv105, sE105, sV105, sC105, sK105, sc105, sb105, sl105⟩ := own_Str.latin hS (own_lat2 (own_allS (by decide) (own_allS (by decide) (own_allS (by decide) (own_allS (by decide) (own_allS (by decide) (own_allS (by decide) (own_allS (by decide) (own_allS (by decide) (own_allS (by decide) (own_allS (by decide) (own_allS (by decide) own_all0))))))))))))
    obtain ⟨cq104, kq104, q104a, q104b, q104c⟩ := isOf hZ hh101 hS.1
    obtain ⟨_, _, ⟨T104, L104, k104, n104⟩, -, X104, ⟨Lc104, hQ104, l104, y104, z104⟩, st104⟩ := X101.virtualBack hx (y := own_mn2) (z := own_mn2) hown (mvT hZ (own_i hw 33 rfl)) (mvT hZ (own_i hw 34 rfl)) (notFace_of_selects (args := #[]) (mvT hZ (own_i hw 36 rfl))) (mvT hZ (own_i hw 36 rfl)) (mvT hZ (own_i hw 35 rfl)) (by decide) (StrChars.Road.chN (W := 0) hZ (own_hch hw) (kI := 4) (own_i hw 2 rfl) sE105 sV105 sC105 sK105 sc105 sb105 (O2.ext X00.2) P5 (O4.ext X00.2) rG3 sl105 (i := 2) (Nat.le_of_ble_eq_true rfl) (j := (2 : Int32)) rfl (by decide) (by decide)) q104a q104c (g := (mkF m 19 #[sR oa, sI 2, sI vp, sI vc] [(.int 2), (.ref oa)])) rfl (by rw [hml]; rfl) (Steps.refl _) (argsL := [(.int 2)]) (rest := []) (lenOf own_pd1 rfl) rfl (by show 2 * 0 + _ ≤ _; exact Nat.le_of_eq rfl) (hb hby own_d0_19) (fun _ _ => ⟨rfl, hh101, (by decide : 0 + 0 ≤ _), (by decide : 0 + 0 ≤ _)⟩)
    dsimp only [own_R, Pt.U, Pt.locs, Pt.cells, Pt.slots] at X104 l104 y104 z104 st104 hQ104
    subst y104 z104
    obtain ⟨hv104, hL104, hh104⟩ := hQ104
    subst hL104
    have N104 : Fr n0 L104 := by rw [l104]; exact Fr.app N101 (Fr.nil n0)
    subst hv104
    refine own_to ?_ (fun t k => st104.trans k)
    exact own_retN X104 hx (t := .char) (w := (118 : Int32)) hret (by decide) rfl hlk (hb hby own_d0_22) (by rw [hh104]; exact (⟨(118 : Int32), rfl, N104, KK0, (own_at_neg hc10_103), (by decide)⟩)) (by decide) (by decide)
def own_QatD3 (Z : State) (oa : Addr) (ua : Addr) (vp : Int32) (vc : Int32) (h0 : Heap) (n0 : Nat) (v : Option Value) (h : Heap) (L : List Loc) : Prop := (∃ (oc : Int32), v = some (.int oc) ∧ Fr n0 L ∧ Keep h0 h [] ∧ (oc = (own_at (3 : Int32) vp vc (101 : Int32))) ∧ (¬ oc < 0 ∧ ¬ (255 : Int32) < oc))
theorem own_ef_atD3 (m : MethodId) (oa : Addr) (vp : Int32) (vc : Int32)  : entryFrame m #[(.ref oa), (.int 3), (.int vp), (.int vc)] 4 = mkF m 0 #[sR oa, sI 3, sI vp, sI vc] [] := by first | (simp [entryFrame, mkF, argsToLocals, Value.category]; done) | rfl
set_option maxRecDepth 65536 in
set_option maxHeartbeats 40000000 in
theorem own_rmatD3 (l : Launch) (Z : State) (a0 : Array Value) (hw : ∀ d ∈ tables_1, d.before a0 Z = true) (hst : own_St Z) (ws : List Jvm.Cond) (oa : Addr) (ua : Addr) (vp : Int32) (vc : Int32) (h0 : Heap) (n0 : Nat) (X00 : Old Z n0 h0) (hS : own_Str Z h0 oa ua ([(68 : Int32), (101 : Int32), (118 : Int32), (101 : Int32), (108 : Int32), (111 : Int32), (112 : Int32), (109 : Int32), (101 : Int32), (110 : Int32), (116 : Int32)] : List Int32)) (hc : ¬ vc < 0 ∧ ¬ (255 : Int32) < vc) :
    own_MF l own_mn0 method_3_code 4 (Option.some Jvm.ClassFile.FieldType.char) ws (own_R 4 0 0 53) #[(.ref oa), (.int 3), (.int vp), (.int vc)] Z h0 (own_QatD3 Z oa ua vp vc h0 n0) := by
  refine own_body (plainFor_of_name own_pn0) (fun m => own_ef_atD3 m oa vp vc ) ?_
  intro p e s m below meth c s₁ hx hby hret hlk hml hZ hown hnm hh X0 e0
  have N0 := Fr.nil n0
  have KK0 : Keep h0 h0 [] := Keep.refl h0 _
  obtain ⟨⟨G1, O2, P5⟩, ⟨G3, O4, rG3⟩, -⟩ := id hst
  refine own_to (V := s₁.setTop (mkF m 2 #[sR oa, sI 3, sI vp, sI vc] [(.ref oa), (.int 3)])) ?_ fun t k => (by
    refine XS.iloadN X0.here hx rfl (hb hby own_d0_0) rfl ?_
    refine XS.aloadN X0.here hx rfl (hb hby own_d0_1) rfl rfl ?_
    exact k)
  obtain ⟨sE102, sd102, sN102, sk102, sv102, sV102, sC102, sK102, sc102, sb102, sl102⟩ := id hS
  obtain ⟨cq101, kq101, q101a, q101b, q101c⟩ := isOf hZ e0 hS.1
  obtain ⟨_, _, ⟨T101, L101, k101, n101⟩, -, X101, ⟨Lc101, hQ101, l101, y101, z101⟩, st101⟩ := X0.virtualBack hx (y := own_mn1) (z := own_mn1) hown (mvT hZ (own_i hw 11 rfl)) (mvT hZ (own_i hw 12 rfl)) (notFace_of_selects (args := #[]) (mvT hZ (own_i hw 14 rfl))) (mvT hZ (own_i hw 14 rfl)) (mvT hZ (own_i hw 13 rfl)) (by decide) (StrChars.Road.lenW (W := 1) hZ (own_hln hw) (kI := 4) (own_i hw 2 rfl) sE102 sV102 sC102 sK102 sc102 sb102 (O2.ext X00.2) P5 sl102 (by decide) (by decide)) q101a q101c (g := (mkF m 2 #[sR oa, sI 3, sI vp, sI vc] [(.ref oa), (.int 3)])) rfl (by rw [hml]; rfl) (Steps.refl _) (argsL := []) (rest := [(.int 3)]) (lenOf own_pd0 rfl) rfl (by show 2 * 0 + _ ≤ _; exact Nat.le_of_eq rfl) (hb hby own_d0_2) (fun _ _ => ⟨rfl, e0, (by decide : 0 + 0 ≤ _), (by decide : 0 + 0 ≤ _)⟩)
  dsimp only [own_R, Pt.U, Pt.locs, Pt.cells, Pt.slots] at X101 l101 y101 z101 st101 hQ101
  subst y101 z101
  obtain ⟨hv101, hL101, hh101⟩ := hQ101
  subst hL101
  have N101 : Fr n0 L101 := by rw [l101]; exact Fr.app N0 (Fr.nil n0)
  subst hv101
  refine own_to ?_ (fun t k => st101.trans k)
  refine own_to (V := T101.setTop (mkF m 10 #[sR oa, sI 3, sI vp, sI vc] [(.int vp), (.int 3)])) ?_ fun t k => (by
    refine XS.icmpNo X101.here hx rfl (hb hby own_d0_5) rfl (tlt ((by decide) : (3 : Int32) < (11 : Int32))).2.1 ?_
    refine XS.iloadN X101.here hx rfl (hb hby own_d0_8) rfl ?_
    refine XS.iloadN X101.here hx rfl (hb hby own_d0_9) rfl ?_
    exact k)
  by_cases hc10_103 : (3 : Int32) = vp
  · skip
    refine own_to (V := T101.setTop (mkF m 22 #[sR oa, sI 3, sI vp, sI vc] [(.int vc)])) ?_ fun t k => (by
      refine XS.icmpNo X101.here hx rfl (hb hby own_d0_10) rfl (teq (hc10_103 : (3 : Int32) = vp)).2 ?_
      refine XS.iloadN X101.here hx rfl (hb hby own_d0_13) rfl ?_
      refine XS.goto X101.here hx rfl (pc0 := 14) (pc' := 22) rfl (hb hby own_d0_14) (by decide) (by decide) ?_
      exact k)
    exact own_retN X101 hx (t := .char) (w := vc) hret (by decide) (own_narC (own_up hc)) hlk (hb hby own_d0_22) (by rw [hh101]; exact (⟨vc, rfl, N101, KK0, (own_at_pos hc10_103), hc⟩)) (by decide) (by decide)
  · skip
    refine own_to (V := T101.setTop (mkF m 19 #[sR oa, sI 3, sI vp, sI vc] [(.int 3), (.ref oa)])) ?_ fun t k => (by
      refine XS.icmpYes X101.here hx rfl (pc0 := 10) (pc' := 17) rfl (hb hby own_d0_10) rfl (feq (hc10_103 : ¬ ((3 : Int32) = vp))).2 (by decide) (by decide) ?_
      refine XS.aloadN X101.here hx rfl (hb hby own_d0_17) rfl rfl ?_
      refine XS.iloadN X101.here hx rfl (hb hby own_d0_18) rfl ?_
      exact k)
    obtain ⟨sN105, sk105, sv105, sE105, sV105, sC105, sK105, sc105, sb105, sl105⟩ := own_Str.latin hS (own_lat2 (own_allS (by decide) (own_allS (by decide) (own_allS (by decide) (own_allS (by decide) (own_allS (by decide) (own_allS (by decide) (own_allS (by decide) (own_allS (by decide) (own_allS (by decide) (own_allS (by decide) (own_allS (by decide) own_all0))))))))))))
    obtain ⟨cq104, kq104, q104a, q104b, q104c⟩ := isOf hZ hh101 hS.1
    obtain ⟨_, _, ⟨T104, L104, k104, n104⟩, -, X104, ⟨Lc104, hQ104, l104, y104, z104⟩, st104⟩ := X101.virtualBack hx (y := own_mn2) (z := own_mn2) hown (mvT hZ (own_i hw 33 rfl)) (mvT hZ (own_i hw 34 rfl)) (notFace_of_selects (args := #[]) (mvT hZ (own_i hw 36 rfl))) (mvT hZ (own_i hw 36 rfl)) (mvT hZ (own_i hw 35 rfl)) (by decide) (StrChars.Road.chN (W := 0) hZ (own_hch hw) (kI := 4) (own_i hw 2 rfl) sE105 sV105 sC105 sK105 sc105 sb105 (O2.ext X00.2) P5 (O4.ext X00.2) rG3 sl105 (i := 3) (Nat.le_of_ble_eq_true rfl) (j := (3 : Int32)) rfl (by decide) (by decide)) q104a q104c (g := (mkF m 19 #[sR oa, sI 3, sI vp, sI vc] [(.int 3), (.ref oa)])) rfl (by rw [hml]; rfl) (Steps.refl _) (argsL := [(.int 3)]) (rest := []) (lenOf own_pd1 rfl) rfl (by show 2 * 0 + _ ≤ _; exact Nat.le_of_eq rfl) (hb hby own_d0_19) (fun _ _ => ⟨rfl, hh101, (by decide : 0 + 0 ≤ _), (by decide : 0 + 0 ≤ _)⟩)
    dsimp only [own_R, Pt.U, Pt.locs, Pt.cells, Pt.slots] at X104 l104 y104 z104 st104 hQ104
    subst y104 z104
    obtain ⟨hv104, hL104, hh104⟩ := hQ104
    subst hL104
    have N104 : Fr n0 L104 := by rw [l104]; exact Fr.app N101 (Fr.nil n0)
    subst hv104
    refine own_to ?_ (fun t k => st104.trans k)
    exact own_retN X104 hx (t := .char) (w := (101 : Int32)) hret (by decide) rfl hlk (hb hby own_d0_22) (by rw [hh104]; exact (⟨(101 : Int32), rfl, N104, KK0, (own_at_neg hc10_103), (by decide)⟩)) (by decide) (by decide)
def own_QatD4 (Z : State) (oa : Addr) (ua : Addr) (vp : Int32) (vc : Int32) (h0 : Heap) (n0 : Nat) (v : Option Value) (h : Heap) (L : List Loc) : Prop := (∃ (oc : Int32), v = some (.int oc) ∧ Fr n0 L ∧ Keep h0 h [] ∧ (oc = (own_at (4 : Int32) vp vc (108 : Int32))) ∧ (¬ oc < 0 ∧ ¬ (255 : Int32) < oc))
theorem own_ef_atD4 (m : MethodId) (oa : Addr) (vp : Int32) (vc : Int32)  : entryFrame m #[(.ref oa), (.int 4), (.int vp), (.int vc)] 4 = mkF m 0 #[sR oa, sI 4, sI vp, sI vc] [] := by first | (simp [entryFrame, mkF, argsToLocals, Value.category]; done) | rfl
set_option maxRecDepth 65536 in
set_option maxHeartbeats 40000000 in
theorem own_rmatD4 (l : Launch) (Z : State) (a0 : Array Value) (hw : ∀ d ∈ tables_1, d.before a0 Z = true) (hst : own_St Z) (ws : List Jvm.Cond) (oa : Addr) (ua : Addr) (vp : Int32) (vc : Int32) (h0 : Heap) (n0 : Nat) (X00 : Old Z n0 h0) (hS : own_Str Z h0 oa ua ([(68 : Int32), (101 : Int32), (118 : Int32), (101 : Int32), (108 : Int32), (111 : Int32), (112 : Int32), (109 : Int32), (101 : Int32), (110 : Int32), (116 : Int32)] : List Int32)) (hc : ¬ vc < 0 ∧ ¬ (255 : Int32) < vc) :
    own_MF l own_mn0 method_3_code 4 (Option.some Jvm.ClassFile.FieldType.char) ws (own_R 4 0 0 53) #[(.ref oa), (.int 4), (.int vp), (.int vc)] Z h0 (own_QatD4 Z oa ua vp vc h0 n0) := by
  refine own_body (plainFor_of_name own_pn0) (fun m => own_ef_atD4 m oa vp vc ) ?_
  intro p e s m below meth c s₁ hx hby hret hlk hml hZ hown hnm hh X0 e0
  have N0 := Fr.nil n0
  have KK0 : Keep h0 h0 [] := Keep.refl h0 _
  obtain ⟨⟨G1, O2, P5⟩, ⟨G3, O4, rG3⟩, -⟩ := id hst
  refine own_to (V := s₁.setTop (mkF m 2 #[sR oa, sI 4, sI vp, sI vc] [(.ref oa), (.int 4)])) ?_ fun t k => (by
    refine XS.iloadN X0.here hx rfl (hb hby own_d0_0) rfl ?_
    refine XS.aloadN X0.here hx rfl (hb hby own_d0_1) rfl rfl ?_
    exact k)
  obtain ⟨sE102, sd102, sN102, sk102, sv102, sV102, sC102, sK102, sc102, sb102, sl102⟩ := id hS
  obtain ⟨cq101, kq101, q101a, q101b, q101c⟩ := isOf hZ e0 hS.1
  obtain ⟨_, _, ⟨T101, L101, k101, n101⟩, -, X101, ⟨Lc101, hQ101, l101, y101, z101⟩, st101⟩ := X0.virtualBack hx (y := own_mn1) (z := own_mn1) hown (mvT hZ (own_i hw 11 rfl)) (mvT hZ (own_i hw 12 rfl)) (notFace_of_selects (args := #[]) (mvT hZ (own_i hw 14 rfl))) (mvT hZ (own_i hw 14 rfl)) (mvT hZ (own_i hw 13 rfl)) (by decide) (StrChars.Road.lenW (W := 1) hZ (own_hln hw) (kI := 4) (own_i hw 2 rfl) sE102 sV102 sC102 sK102 sc102 sb102 (O2.ext X00.2) P5 sl102 (by decide) (by decide)) q101a q101c (g := (mkF m 2 #[sR oa, sI 4, sI vp, sI vc] [(.ref oa), (.int 4)])) rfl (by rw [hml]; rfl) (Steps.refl _) (argsL := []) (rest := [(.int 4)]) (lenOf own_pd0 rfl) rfl (by show 2 * 0 + _ ≤ _; exact Nat.le_of_eq rfl) (hb hby own_d0_2) (fun _ _ => ⟨rfl, e0, (by decide : 0 + 0 ≤ _), (by decide : 0 + 0 ≤ _)⟩)
  dsimp only [own_R, Pt.U, Pt.locs, Pt.cells, Pt.slots] at X101 l101 y101 z101 st101 hQ101
  subst y101 z101
  obtain ⟨hv101, hL101, hh101⟩ := hQ101
  subst hL101
  have N101 : Fr n0 L101 := by rw [l101]; exact Fr.app N0 (Fr.nil n0)
  subst hv101
  refine own_to ?_ (fun t k => st101.trans k)
  refine own_to (V := T101.setTop (mkF m 10 #[sR oa, sI 4, sI vp, sI vc] [(.int vp), (.int 4)])) ?_ fun t k => (by
    refine XS.icmpNo X101.here hx rfl (hb hby own_d0_5) rfl (tlt ((by decide) : (4 : Int32) < (11 : Int32))).2.1 ?_
    refine XS.iloadN X101.here hx rfl (hb hby own_d0_8) rfl ?_
    refine XS.iloadN X101.here hx rfl (hb hby own_d0_9) rfl ?_
    exact k)
  by_cases hc10_103 : (4 : Int32) = vp
  · skip
    refine own_to (V := T101.setTop (mkF m 22 #[sR oa, sI 4, sI vp, sI vc] [(.int vc)])) ?_ fun t k => (by
      refine XS.icmpNo X101.here hx rfl (hb hby own_d0_10) rfl (teq (hc10_103 : (4 : Int32) = vp)).2 ?_
      refine XS.iloadN X101.here hx rfl (hb hby own_d0_13) rfl ?_
      refine XS.goto X101.here hx rfl (pc0 := 14) (pc' := 22) rfl (hb hby own_d0_14) (by decide) (by decide) ?_
      exact k)
    exact own_retN X101 hx (t := .char) (w := vc) hret (by decide) (own_narC (own_up hc)) hlk (hb hby own_d0_22) (by rw [hh101]; exact (⟨vc, rfl, N101, KK0, (own_at_pos hc10_103), hc⟩)) (by decide) (by decide)
  · skip
    refine own_to (V := T101.setTop (mkF m 19 #[sR oa, sI 4, sI vp, sI vc] [(.int 4), (.ref oa)])) ?_ fun t k => (by
      refine XS.icmpYes X101.here hx rfl (pc0 := 10) (pc' := 17) rfl (hb hby own_d0_10) rfl (feq (hc10_103 : ¬ ((4 : Int32) = vp))).2 (by decide) (by decide) ?_
      refine XS.aloadN X101.here hx rfl (hb hby own_d0_17) rfl rfl ?_
      refine XS.iloadN X101.here hx rfl (hb hby own_d0_18) rfl ?_
      exact k)
    obtain ⟨sN105, sk105, sv105, sE105, sV105, sC105, sK105, sc105, sb105, sl105⟩ := own_Str.latin hS (own_lat2 (own_allS (by decide) (own_allS (by decide) (own_allS (by decide) (own_allS (by decide) (own_allS (by decide) (own_allS (by decide) (own_allS (by decide) (own_allS (by decide) (own_allS (by decide) (own_allS (by decide) (own_allS (by decide) own_all0))))))))))))
    obtain ⟨cq104, kq104, q104a, q104b, q104c⟩ := isOf hZ hh101 hS.1
    obtain ⟨_, _, ⟨T104, L104, k104, n104⟩, -, X104, ⟨Lc104, hQ104, l104, y104, z104⟩, st104⟩ := X101.virtualBack hx (y := own_mn2) (z := own_mn2) hown (mvT hZ (own_i hw 33 rfl)) (mvT hZ (own_i hw 34 rfl)) (notFace_of_selects (args := #[]) (mvT hZ (own_i hw 36 rfl))) (mvT hZ (own_i hw 36 rfl)) (mvT hZ (own_i hw 35 rfl)) (by decide) (StrChars.Road.chN (W := 0) hZ (own_hch hw) (kI := 4) (own_i hw 2 rfl) sE105 sV105 sC105 sK105 sc105 sb105 (O2.ext X00.2) P5 (O4.ext X00.2) rG3 sl105 (i := 4) (Nat.le_of_ble_eq_true rfl) (j := (4 : Int32)) rfl (by decide) (by decide)) q104a q104c (g := (mkF m 19 #[sR oa, sI 4, sI vp, sI vc] [(.int 4), (.ref oa)])) rfl (by rw [hml]; rfl) (Steps.refl _) (argsL := [(.int 4)]) (rest := []) (lenOf own_pd1 rfl) rfl (by show 2 * 0 + _ ≤ _; exact Nat.le_of_eq rfl) (hb hby own_d0_19) (fun _ _ => ⟨rfl, hh101, (by decide : 0 + 0 ≤ _), (by decide : 0 + 0 ≤ _)⟩)
    dsimp only [own_R, Pt.U, Pt.locs, Pt.cells, Pt.slots] at X104 l104 y104 z104 st104 hQ104
    subst y104 z104
    obtain ⟨hv104, hL104, hh104⟩ := hQ104
    subst hL104
    have N104 : Fr n0 L104 := by rw [l104]; exact Fr.app N101 (Fr.nil n0)
    subst hv104
    refine own_to ?_ (fun t k => st104.trans k)
    exact own_retN X104 hx (t := .char) (w := (108 : Int32)) hret (by decide) rfl hlk (hb hby own_d0_22) (by rw [hh104]; exact (⟨(108 : Int32), rfl, N104, KK0, (own_at_neg hc10_103), (by decide)⟩)) (by decide) (by decide)
def own_QatD5 (Z : State) (oa : Addr) (ua : Addr) (vp : Int32) (vc : Int32) (h0 : Heap) (n0 : Nat) (v : Option Value) (h : Heap) (L : List Loc) : Prop := (∃ (oc : Int32), v = some (.int oc) ∧ Fr n0 L ∧ Keep h0 h [] ∧ (oc = (own_at (5 : Int32) vp vc (111 : Int32))) ∧ (¬ oc < 0 ∧ ¬ (255 : Int32) < oc))
theorem own_ef_atD5 (m : MethodId) (oa : Addr) (vp : Int32) (vc : Int32)  : entryFrame m #[(.ref oa), (.int 5), (.int vp), (.int vc)] 4 = mkF m 0 #[sR oa, sI 5, sI vp, sI vc] [] := by first | (simp [entryFrame, mkF, argsToLocals, Value.category]; done) | rfl
set_option maxRecDepth 65536 in
set_option maxHeartbeats 40000000 in
theorem own_rmatD5 (l : Launch) (Z : State) (a0 : Array Value) (hw : ∀ d ∈ tables_1, d.before a0 Z = true) (hst : own_St Z) (ws : List Jvm.Cond) (oa : Addr) (ua : Addr) (vp : Int32) (vc : Int32) (h0 : Heap) (n0 : Nat) (X00 : Old Z n0 h0) (hS : own_Str Z h0 oa ua ([(68 : Int32), (101 : Int32), (118 : Int32), (101 : Int32), (108 : Int32), (111 : Int32), (112 : Int32), (109 : Int32), (101 : Int32), (110 : Int32), (116 : Int32)] : List Int32)) (hc : ¬ vc < 0 ∧ ¬ (255 : Int32) < vc) :
    own_MF l own_mn0 method_3_code 4 (Option.some Jvm.ClassFile.FieldType.char) ws (own_R 4 0 0 53) #[(.ref oa), (.int 5), (.int vp), (.int vc)] Z h0 (own_QatD5 Z oa ua vp vc h0 n0) := by
  refine own_body (plainFor_of_name own_pn0) (fun m => own_ef_atD5 m oa vp vc ) ?_
  intro p e s m below meth c s₁ hx hby hret hlk hml hZ hown hnm hh X0 e0
  have N0 := Fr.nil n0
  have KK0 : Keep h0 h0 [] := Keep.refl h0 _
  obtain ⟨⟨G1, O2, P5⟩, ⟨G3, O4, rG3⟩, -⟩ := id hst
  refine own_to (V := s₁.setTop (mkF m 2 #[sR oa, sI 5, sI vp, sI vc] [(.ref oa), (.int 5)])) ?_ fun t k => (by
    refine XS.iloadN X0.here hx rfl (hb hby own_d0_0) rfl ?_
    refine XS.aloadN X0.here hx rfl (hb hby own_d0_1) rfl rfl ?_
    exact k)
  obtain ⟨sE102, sd102, sN102, sk102, sv102, sV102, sC102, sK102, sc102, sb102, sl102⟩ := id hS
  obtain ⟨cq101, kq101, q101a, q101b, q101c⟩ := isOf hZ e0 hS.1
  obtain ⟨_, _, ⟨T101, L101, k101, n101⟩, -, X101, ⟨Lc101, hQ101, l101, y101, z101⟩, st101⟩ := X0.virtualBack hx (y := own_mn1) (z := own_mn1) hown (mvT hZ (own_i hw 11 rfl)) (mvT hZ (own_i hw 12 rfl)) (notFace_of_selects (args := #[]) (mvT hZ (own_i hw 14 rfl))) (mvT hZ (own_i hw 14 rfl)) (mvT hZ (own_i hw 13 rfl)) (by decide) (StrChars.Road.lenW (W := 1) hZ (own_hln hw) (kI := 4) (own_i hw 2 rfl) sE102 sV102 sC102 sK102 sc102 sb102 (O2.ext X00.2) P5 sl102 (by decide) (by decide)) q101a q101c (g := (mkF m 2 #[sR oa, sI 5, sI vp, sI vc] [(.ref oa), (.int 5)])) rfl (by rw [hml]; rfl) (Steps.refl _) (argsL := []) (rest := [(.int 5)]) (lenOf own_pd0 rfl) rfl (by show 2 * 0 + _ ≤ _; exact Nat.le_of_eq rfl) (hb hby own_d0_2) (fun _ _ => ⟨rfl, e0, (by decide : 0 + 0 ≤ _), (by decide : 0 + 0 ≤ _)⟩)
  dsimp only [own_R, Pt.U, Pt.locs, Pt.cells, Pt.slots] at X101 l101 y101 z101 st101 hQ101
  subst y101 z101
  obtain ⟨hv101, hL101, hh101⟩ := hQ101
  subst hL101
  have N101 : Fr n0 L101 := by rw [l101]; exact Fr.app N0 (Fr.nil n0)
  subst hv101
  refine own_to ?_ (fun t k => st101.trans k)
  refine own_to (V := T101.setTop (mkF m 10 #[sR oa, sI 5, sI vp, sI vc] [(.int vp), (.int 5)])) ?_ fun t k => (by
    refine XS.icmpNo X101.here hx rfl (hb hby own_d0_5) rfl (tlt ((by decide) : (5 : Int32) < (11 : Int32))).2.1 ?_
    refine XS.iloadN X101.here hx rfl (hb hby own_d0_8) rfl ?_
    refine XS.iloadN X101.here hx rfl (hb hby own_d0_9) rfl ?_
    exact k)
  by_cases hc10_103 : (5 : Int32) = vp
  · skip
    refine own_to (V := T101.setTop (mkF m 22 #[sR oa, sI 5, sI vp, sI vc] [(.int vc)])) ?_ fun t k => (by
      refine XS.icmpNo X101.here hx rfl (hb hby own_d0_10) rfl (teq (hc10_103 : (5 : Int32) = vp)).2 ?_
      refine XS.iloadN X101.here hx rfl (hb hby own_d0_13) rfl ?_
      refine XS.goto X101.here hx rfl (pc0 := 14) (pc' := 22) rfl (hb hby own_d0_14) (by decide) (by decide) ?_
      exact k)
    exact own_retN X101 hx (t := .char) (w := vc) hret (by decide) (own_narC (own_up hc)) hlk (hb hby own_d0_22) (by rw [hh101]; exact (⟨vc, rfl, N101, KK0, (own_at_pos hc10_103), hc⟩)) (by decide) (by decide)
  · skip
    refine own_to (V := T101.setTop (mkF m 19 #[sR oa, sI 5, sI vp, sI vc] [(.int 5), (.ref oa)])) ?_ fun t k => (by
      refine XS.icmpYes X101.here hx rfl (pc0 := 10) (pc' := 17) rfl (hb hby own_d0_10) rfl (feq (hc10_103 : ¬ ((5 : Int32) = vp))).2 (by decide) (by decide) ?_
      refine XS.aloadN X101.here hx rfl (hb hby own_d0_17) rfl rfl ?_
      refine XS.iloadN X101.here hx rfl (hb hby own_d0_18) rfl ?_
      exact k)
    obtain ⟨sN105, sk105, sv105, sE105, sV105, sC105, sK105, sc105, sb105, sl105⟩ := own_Str.latin hS (own_lat2 (own_allS (by decide) (own_allS (by decide) (own_allS (by decide) (own_allS (by decide) (own_allS (by decide) (own_allS (by decide) (own_allS (by decide) (own_allS (by decide) (own_allS (by decide) (own_allS (by decide) (own_allS (by decide) own_all0))))))))))))
    obtain ⟨cq104, kq104, q104a, q104b, q104c⟩ := isOf hZ hh101 hS.1
    obtain ⟨_, _, ⟨T104, L104, k104, n104⟩, -, X104, ⟨Lc104, hQ104, l104, y104, z104⟩, st104⟩ := X101.virtualBack hx (y := own_mn2) (z := own_mn2) hown (mvT hZ (own_i hw 33 rfl)) (mvT hZ (own_i hw 34 rfl)) (notFace_of_selects (args := #[]) (mvT hZ (own_i hw 36 rfl))) (mvT hZ (own_i hw 36 rfl)) (mvT hZ (own_i hw 35 rfl)) (by decide) (StrChars.Road.chN (W := 0) hZ (own_hch hw) (kI := 4) (own_i hw 2 rfl) sE105 sV105 sC105 sK105 sc105 sb105 (O2.ext X00.2) P5 (O4.ext X00.2) rG3 sl105 (i := 5) (Nat.le_of_ble_eq_true rfl) (j := (5 : Int32)) rfl (by decide) (by decide)) q104a q104c (g := (mkF m 19 #[sR oa, sI 5, sI vp, sI vc] [(.int 5), (.ref oa)])) rfl (by rw [hml]; rfl) (Steps.refl _) (argsL := [(.int 5)]) (rest := []) (lenOf own_pd1 rfl) rfl (by show 2 * 0 + _ ≤ _; exact Nat.le_of_eq rfl) (hb hby own_d0_19) (fun _ _ => ⟨rfl, hh101, (by decide : 0 + 0 ≤ _), (by decide : 0 + 0 ≤ _)⟩)
    dsimp only [own_R, Pt.U, Pt.locs, Pt.cells, Pt.slots] at X104 l104 y104 z104 st104 hQ104
    subst y104 z104
    obtain ⟨hv104, hL104, hh104⟩ := hQ104
    subst hL104
    have N104 : Fr n0 L104 := by rw [l104]; exact Fr.app N101 (Fr.nil n0)
    subst hv104
    refine own_to ?_ (fun t k => st104.trans k)
    exact own_retN X104 hx (t := .char) (w := (111 : Int32)) hret (by decide) rfl hlk (hb hby own_d0_22) (by rw [hh104]; exact (⟨(111 : Int32), rfl, N104, KK0, (own_at_neg hc10_103), (by decide)⟩)) (by decide) (by decide)
def own_QatD6 (Z : State) (oa : Addr) (ua : Addr) (vp : Int32) (vc : Int32) (h0 : Heap) (n0 : Nat) (v : Option Value) (h : Heap) (L : List Loc) : Prop := (∃ (oc : Int32), v = some (.int oc) ∧ Fr n0 L ∧ Keep h0 h [] ∧ (oc = (own_at (6 : Int32) vp vc (112 : Int32))) ∧ (¬ oc < 0 ∧ ¬ (255 : Int32) < oc))
theorem own_ef_atD6 (m : MethodId) (oa : Addr) (vp : Int32) (vc : Int32)  : entryFrame m #[(.ref oa), (.int 6), (.int vp), (.int vc)] 4 = mkF m 0 #[sR oa, sI 6, sI vp, sI vc] [] := by first | (simp [entryFrame, mkF, argsToLocals, Value.category]; done) | rfl
set_option maxRecDepth 65536 in
set_option maxHeartbeats 40000000 in
theorem own_rmatD6 (l : Launch) (Z : State) (a0 : Array Value) (hw : ∀ d ∈ tables_1, d.before a0 Z = true) (hst : own_St Z) (ws : List Jvm.Cond) (oa : Addr) (ua : Addr) (vp : Int32) (vc : Int32) (h0 : Heap) (n0 : Nat) (X00 : Old Z n0 h0) (hS : own_Str Z h0 oa ua ([(68 : Int32), (101 : Int32), (118 : Int32), (101 : Int32), (108 : Int32), (111 : Int32), (112 : Int32), (109 : Int32), (101 : Int32), (110 : Int32), (116 : Int32)] : List Int32)) (hc : ¬ vc < 0 ∧ ¬ (255 : Int32) < vc) :
    own_MF l own_mn0 method_3_code 4 (Option.some Jvm.ClassFile.FieldType.char) ws (own_R 4 0 0 53) #[(.ref oa), (.int 6), (.int vp), (.int vc)] Z h0 (own_QatD6 Z oa ua vp vc h0 n0) := by
  refine own_body (plainFor_of_name own_pn0) (fun m => own_ef_atD6 m oa vp vc ) ?_
  intro p e s m below meth c s₁ hx hby hret hlk hml hZ hown hnm hh X0 e0
  have N0 := Fr.nil n0
  have KK0 : Keep h0 h0 [] := Keep.refl h0 _
  obtain ⟨⟨G1, O2, P5⟩, ⟨G3, O4, rG3⟩, -⟩ := id hst
  refine own_to (V := s₁.setTop (mkF m 2 #[sR oa, sI 6, sI vp, sI vc] [(.ref oa), (.int 6)])) ?_ fun t k => (by
    refine XS.iloadN X0.here hx rfl (hb hby own_d0_0) rfl ?_
    refine XS.aloadN X0.here hx rfl (hb hby own_d0_1) rfl rfl ?_
    exact k)
  obtain ⟨sE102, sd102, sN102, sk102, sv102, sV102, sC102, sK102, sc102, sb102, sl102⟩ := id hS
  obtain ⟨cq101, kq101, q101a, q101b, q101c⟩ := isOf hZ e0 hS.1
  obtain ⟨_, _, ⟨T101, L101, k101, n101⟩, -, X101, ⟨Lc101, hQ101, l101, y101, z101⟩, st101⟩ := X0.virtualBack hx (y := own_mn1) (z := own_mn1) hown (mvT hZ (own_i hw 11 rfl)) (mvT hZ (own_i hw 12 rfl)) (notFace_of_selects (args := #[]) (mvT hZ (own_i hw 14 rfl))) (mvT hZ (own_i hw 14 rfl)) (mvT hZ (own_i hw 13 rfl)) (by decide) (StrChars.Road.lenW (W := 1) hZ (own_hln hw) (kI := 4) (own_i hw 2 rfl) sE102 sV102 sC102 sK102 sc102 sb102 (O2.ext X00.2) P5 sl102 (by decide) (by decide)) q101a q101c (g := (mkF m 2 #[sR oa, sI 6, sI vp, sI vc] [(.ref oa), (.int 6)])) rfl (by rw [hml]; rfl) (Steps.refl _) (argsL := []) (rest := [(.int 6)]) (lenOf own_pd0 rfl) rfl (by show 2 * 0 + _ ≤ _; exact Nat.le_of_eq rfl) (hb hby own_d0_2) (fun _ _ => ⟨rfl, e0, (by decide : 0 + 0 ≤ _), (by decide : 0 + 0 ≤ _)⟩)
  dsimp only [own_R, Pt.U, Pt.locs, Pt.cells, Pt.slots] at X101 l101 y101 z101 st101 hQ101
  subst y101 z101
  obtain ⟨hv101, hL101, hh101⟩ := hQ101
  subst hL101
  have N101 : Fr n0 L101 := by rw [l101]; exact Fr.app N0 (Fr.nil n0)
  subst hv101
  refine own_to ?_ (fun t k => st101.trans k)
  refine own_to (V := T101.setTop (mkF m 10 #[sR oa, sI 6, sI vp, sI vc] [(.int vp), (.int 6)])) ?_ fun t k => (by
    refine XS.icmpNo X101.here hx rfl (hb hby own_d0_5) rfl (tlt ((by decide) : (6 : Int32) < (11 : Int32))).2.1 ?_
    refine XS.iloadN X101.here hx rfl (hb hby own_d0_8) rfl ?_
    refine XS.iloadN X101.here hx rfl (hb hby own_d0_9) rfl ?_
    exact k)
  by_cases hc10_103 : (6 : Int32) = vp
  · skip
    refine own_to (V := T101.setTop (mkF m 22 #[sR oa, sI 6, sI vp, sI vc] [(.int vc)])) ?_ fun t k => (by
      refine XS.icmpNo X101.here hx rfl (hb hby own_d0_10) rfl (teq (hc10_103 : (6 : Int32) = vp)).2 ?_
      refine XS.iloadN X101.here hx rfl (hb hby own_d0_13) rfl ?_
      refine XS.goto X101.here hx rfl (pc0 := 14) (pc' := 22) rfl (hb hby own_d0_14) (by decide) (by decide) ?_
      exact k)
    exact own_retN X101 hx (t := .char) (w := vc) hret (by decide) (own_narC (own_up hc)) hlk (hb hby own_d0_22) (by rw [hh101]; exact (⟨vc, rfl, N101, KK0, (own_at_pos hc10_103), hc⟩)) (by decide) (by decide)
  · skip
    refine own_to (V := T101.setTop (mkF m 19 #[sR oa, sI 6, sI vp, sI vc] [(.int 6), (.ref oa)])) ?_ fun t k => (by
      refine XS.icmpYes X101.here hx rfl (pc0 := 10) (pc' := 17) rfl (hb hby own_d0_10) rfl (feq (hc10_103 : ¬ ((6 : Int32) = vp))).2 (by decide) (by decide) ?_
      refine XS.aloadN X101.here hx rfl (hb hby own_d0_17) rfl rfl ?_
      refine XS.iloadN X101.here hx rfl (hb hby own_d0_18) rfl ?_
      exact k)
    obtain ⟨sN105, sk105, sv105, sE105, sV105, sC105, sK105, sc105, sb105, sl105⟩ := own_Str.latin hS (own_lat2 (own_allS (by decide) (own_allS (by decide) (own_allS (by decide) (own_allS (by decide) (own_allS (by decide) (own_allS (by decide) (own_allS (by decide) (own_allS (by decide) (own_allS (by decide) (own_allS (by decide) (own_allS (by decide) own_all0))))))))))))
    obtain ⟨cq104, kq104, q104a, q104b, q104c⟩ := isOf hZ hh101 hS.1
    obtain ⟨_, _, ⟨T104, L104, k104, n104⟩, -, X104, ⟨Lc104, hQ104, l104, y104, z104⟩, st104⟩ := X101.virtualBack hx (y := own_mn2) (z := own_mn2) hown (mvT hZ (own_i hw 33 rfl)) (mvT hZ (own_i hw 34 rfl)) (notFace_of_selects (args := #[]) (mvT hZ (own_i hw 36 rfl))) (mvT hZ (own_i hw 36 rfl)) (mvT hZ (own_i hw 35 rfl)) (by decide) (StrChars.Road.chN (W := 0) hZ (own_hch hw) (kI := 4) (own_i hw 2 rfl) sE105 sV105 sC105 sK105 sc105 sb105 (O2.ext X00.2) P5 (O4.ext X00.2) rG3 sl105 (i := 6) (Nat.le_of_ble_eq_true rfl) (j := (6 : Int32)) rfl (by decide) (by decide)) q104a q104c (g := (mkF m 19 #[sR oa, sI 6, sI vp, sI vc] [(.int 6), (.ref oa)])) rfl (by rw [hml]; rfl) (Steps.refl _) (argsL := [(.int 6)]) (rest := []) (lenOf own_pd1 rfl) rfl (by show 2 * 0 + _ ≤ _; exact Nat.le_of_eq rfl) (hb hby own_d0_19) (fun _ _ => ⟨rfl, hh101, (by decide : 0 + 0 ≤ _), (by decide : 0 + 0 ≤ _)⟩)
    dsimp only [own_R, Pt.U, Pt.locs, Pt.cells, Pt.slots] at X104 l104 y104 z104 st104 hQ104
    subst y104 z104
    obtain ⟨hv104, hL104, hh104⟩ := hQ104
    subst hL104
    have N104 : Fr n0 L104 := by rw [l104]; exact Fr.app N101 (Fr.nil n0)
    subst hv104
    refine own_to ?_ (fun t k => st104.trans k)
    exact own_retN X104 hx (t := .char) (w := (112 : Int32)) hret (by decide) rfl hlk (hb hby own_d0_22) (by rw [hh104]; exact (⟨(112 : Int32), rfl, N104, KK0, (own_at_neg hc10_103), (by decide)⟩)) (by decide) (by decide)
def own_QatD7 (Z : State) (oa : Addr) (ua : Addr) (vp : Int32) (vc : Int32) (h0 : Heap) (n0 : Nat) (v : Option Value) (h : Heap) (L : List Loc) : Prop := (∃ (oc : Int32), v = some (.int oc) ∧ Fr n0 L ∧ Keep h0 h [] ∧ (oc = (own_at (7 : Int32) vp vc (109 : Int32))) ∧ (¬ oc < 0 ∧ ¬ (255 : Int32) < oc))
theorem own_ef_atD7 (m : MethodId) (oa : Addr) (vp : Int32) (vc : Int32)  : entryFrame m #[(.ref oa), (.int 7), (.int vp), (.int vc)] 4 = mkF m 0 #[sR oa, sI 7, sI vp, sI vc] [] := by first | (simp [entryFrame, mkF, argsToLocals, Value.category]; done) | rfl
set_option maxRecDepth 65536 in
set_option maxHeartbeats 40000000 in
theorem own_rmatD7 (l : Launch) (Z : State) (a0 : Array Value) (hw : ∀ d ∈ tables_1, d.before a0 Z = true) (hst : own_St Z) (ws : List Jvm.Cond) (oa : Addr) (ua : Addr) (vp : Int32) (vc : Int32) (h0 : Heap) (n0 : Nat) (X00 : Old Z n0 h0) (hS : own_Str Z h0 oa ua ([(68 : Int32), (101 : Int32), (118 : Int32), (101 : Int32), (108 : Int32), (111 : Int32), (112 : Int32), (109 : Int32), (101 : Int32), (110 : Int32), (116 : Int32)] : List Int32)) (hc : ¬ vc < 0 ∧ ¬ (255 : Int32) < vc) :
    own_MF l own_mn0 method_3_code 4 (Option.some Jvm.ClassFile.FieldType.char) ws (own_R 4 0 0 53) #[(.ref oa), (.int 7), (.int vp), (.int vc)] Z h0 (own_QatD7 Z oa ua vp vc h0 n0) := by
  refine own_body (plainFor_of_name own_pn0) (fun m => own_ef_atD7 m oa vp vc ) ?_
  intro p e s m below meth c s₁ hx hby hret hlk hml hZ hown hnm hh X0 e0
  have N0 := Fr.nil n0
  have KK0 : Keep h0 h0 [] := Keep.refl h0 _
  obtain ⟨⟨G1, O2, P5⟩, ⟨G3, O4, rG3⟩, -⟩ := id hst
  refine own_to (V := s₁.setTop (mkF m 2 #[sR oa, sI 7, sI vp, sI vc] [(.ref oa), (.int 7)])) ?_ fun t k => (by
    refine XS.iloadN X0.here hx rfl (hb hby own_d0_0) rfl ?_
    refine XS.aloadN X0.here hx rfl (hb hby own_d0_1) rfl rfl ?_
    exact k)
  obtain ⟨sE102, sd102, sN102, sk102, sv102, sV102, sC102, sK102, sc102, sb102, sl102⟩ := id hS
  obtain ⟨cq101, kq101, q101a, q101b, q101c⟩ := isOf hZ e0 hS.1
  obtain ⟨_, _, ⟨T101, L101, k101, n101⟩, -, X101, ⟨Lc101, hQ101, l101, y101, z101⟩, st101⟩ := X0.virtualBack hx (y := own_mn1) (z := own_mn1) hown (mvT hZ (own_i hw 11 rfl)) (mvT hZ (own_i hw 12 rfl)) (notFace_of_selects (args := #[]) (mvT hZ (own_i hw 14 rfl))) (mvT hZ (own_i hw 14 rfl)) (mvT hZ (own_i hw 13 rfl)) (by decide) (StrChars.Road.lenW (W := 1) hZ (own_hln hw) (kI := 4) (own_i hw 2 rfl) sE102 sV102 sC102 sK102 sc102 sb102 (O2.ext X00.2) P5 sl102 (by decide) (by decide)) q101a q101c (g := (mkF m 2 #[sR oa, sI 7, sI vp, sI vc] [(.ref oa), (.int 7)])) rfl (by rw [hml]; rfl) (Steps.refl _) (argsL := []) (rest := [(.int 7)]) (lenOf own_pd0 rfl) rfl (by show 2 * 0 + _ ≤ _; exact Nat.le_of_eq rfl) (hb hby own_d0_2) (fun _ _ => ⟨rfl, e0, (by decide : 0 + 0 ≤ _), (by decide : 0 + 0 ≤ _)⟩)
  dsimp only [own_R, Pt.U, Pt.locs, Pt.cells, Pt.slots] at X101 l101 y101 z101 st101 hQ101
  subst y101 z101
  obtain ⟨hv101, hL101, hh101⟩ := hQ101
  subst hL101
  have N101 : Fr n0 L101 := by rw [l101]; exact Fr.app N0 (Fr.nil n0)
  subst hv101
  refine own_to ?_ (fun t k => st101.trans k)
  refine own_to (V := T101.setTop (mkF m 10 #[sR oa, sI 7, sI vp, sI vc] [(.int vp), (.int 7)])) ?_ fun t k => (by
    refine XS.icmpNo X101.here hx rfl (hb hby own_d0_5) rfl (tlt ((by decide) : (7 : Int32) < (11 : Int32))).2.1 ?_
    refine XS.iloadN X101.here hx rfl (hb hby own_d0_8) rfl ?_
    refine XS.iloadN X101.here hx rfl (hb hby own_d0_9) rfl ?_
    exact k)
  by_cases hc10_103 : (7 : Int32) = vp
  · skip
    refine own_to (V := T101.setTop (mkF m 22 #[sR oa, sI 7, sI vp, sI vc] [(.int vc)])) ?_ fun t k => (by
      refine XS.icmpNo X101.here hx rfl (hb hby own_d0_10) rfl (teq (hc10_103 : (7 : Int32) = vp)).2 ?_
      refine XS.iloadN X101.here hx rfl (hb hby own_d0_13) rfl ?_
      refine XS.goto X101.here hx rfl (pc0 := 14) (pc' := 22) rfl (hb hby own_d0_14) (by decide) (by decide) ?_
      exact k)
    exact own_retN X101 hx (t := .char) (w := vc) hret (by decide) (own_narC (own_up hc)) hlk (hb hby own_d0_22) (by rw [hh101]; exact (⟨vc, rfl, N101, KK0, (own_at_pos hc10_103), hc⟩)) (by decide) (by decide)
  · skip
    refine own_to (V := T101.setTop (mkF m 19 #[sR oa, sI 7, sI vp, sI vc] [(.int 7), (.ref oa)])) ?_ fun t k => (by
      refine XS.icmpYes X101.here hx rfl (pc0 := 10) (pc' := 17) rfl (hb hby own_d0_10) rfl (feq (hc10_103 : ¬ ((7 : Int32) = vp))).2 (by decide) (by decide) ?_
      refine XS.aloadN X101.here hx rfl (hb hby own_d0_17) rfl rfl ?_
      refine XS.iloadN X101.here hx rfl (hb hby own_d0_18) rfl ?_
      exact k)
    obtain ⟨sN105, sk105, sv105, sE105, sV105, sC105, sK105, sc105, sb105, sl105⟩ := own_Str.latin hS (own_lat2 (own_allS (by decide) (own_allS (by decide) (own_allS (by decide) (own_allS (by decide) (own_allS (by decide) (own_allS (by decide) (own_allS (by decide) (own_allS (by decide) (own_allS (by decide) (own_allS (by decide) (own_allS (by decide) own_all0))))))))))))
    obtain ⟨cq104, kq104, q104a, q104b, q104c⟩ := isOf hZ hh101 hS.1
    obtain ⟨_, _, ⟨T104, L104, k104, n104⟩, -, X104, ⟨Lc104, hQ104, l104, y104, z104⟩, st104⟩ := X101.virtualBack hx (y := own_mn2) (z := own_mn2) hown (mvT hZ (own_i hw 33 rfl)) (mvT hZ (own_i hw 34 rfl)) (notFace_of_selects (args := #[]) (mvT hZ (own_i hw 36 rfl))) (mvT hZ (own_i hw 36 rfl)) (mvT hZ (own_i hw 35 rfl)) (by decide) (StrChars.Road.chN (W := 0) hZ (own_hch hw) (kI := 4) (own_i hw 2 rfl) sE105 sV105 sC105 sK105 sc105 sb105 (O2.ext X00.2) P5 (O4.ext X00.2) rG3 sl105 (i := 7) (Nat.le_of_ble_eq_true rfl) (j := (7 : Int32)) rfl (by decide) (by decide)) q104a q104c (g := (mkF m 19 #[sR oa, sI 7, sI vp, sI vc] [(.int 7), (.ref oa)])) rfl (by rw [hml]; rfl) (Steps.refl _) (argsL := [(.int 7)]) (rest := []) (lenOf own_pd1 rfl) rfl (by show 2 * 0 + _ ≤ _; exact Nat.le_of_eq rfl) (hb hby own_d0_19) (fun _ _ => ⟨rfl, hh101, (by decide : 0 + 0 ≤ _), (by decide : 0 + 0 ≤ _)⟩)
    dsimp only [own_R, Pt.U, Pt.locs, Pt.cells, Pt.slots] at X104 l104 y104 z104 st104 hQ104
    subst y104 z104
    obtain ⟨hv104, hL104, hh104⟩ := hQ104
    subst hL104
    have N104 : Fr n0 L104 := by rw [l104]; exact Fr.app N101 (Fr.nil n0)
    subst hv104
    refine own_to ?_ (fun t k => st104.trans k)
    exact own_retN X104 hx (t := .char) (w := (109 : Int32)) hret (by decide) rfl hlk (hb hby own_d0_22) (by rw [hh104]; exact (⟨(109 : Int32), rfl, N104, KK0, (own_at_neg hc10_103), (by decide)⟩)) (by decide) (by decide)
def own_QatD8 (Z : State) (oa : Addr) (ua : Addr) (vp : Int32) (vc : Int32) (h0 : Heap) (n0 : Nat) (v : Option Value) (h : Heap) (L : List Loc) : Prop := (∃ (oc : Int32), v = some (.int oc) ∧ Fr n0 L ∧ Keep h0 h [] ∧ (oc = (own_at (8 : Int32) vp vc (101 : Int32))) ∧ (¬ oc < 0 ∧ ¬ (255 : Int32) < oc))
theorem own_ef_atD8 (m : MethodId) (oa : Addr) (vp : Int32) (vc : Int32)  : entryFrame m #[(.ref oa), (.int 8), (.int vp), (.int vc)] 4 = mkF m 0 #[sR oa, sI 8, sI vp, sI vc] [] := by first | (simp [entryFrame, mkF, argsToLocals, Value.category]; done) | rfl
set_option maxRecDepth 65536 in
set_option maxHeartbeats 40000000 in
theorem own_rmatD8 (l : Launch) (Z : State) (a0 : Array Value) (hw : ∀ d ∈ tables_1, d.before a0 Z = true) (hst : own_St Z) (ws : List Jvm.Cond) (oa : Addr) (ua : Addr) (vp : Int32) (vc : Int32) (h0 : Heap) (n0 : Nat) (X00 : Old Z n0 h0) (hS : own_Str Z h0 oa ua ([(68 : Int32), (101 : Int32), (118 : Int32), (101 : Int32), (108 : Int32), (111 : Int32), (112 : Int32), (109 : Int32), (101 : Int32), (110 : Int32), (116 : Int32)] : List Int32)) (hc : ¬ vc < 0 ∧ ¬ (255 : Int32) < vc) :
    own_MF l own_mn0 method_3_code 4 (Option.some Jvm.ClassFile.FieldType.char) ws (own_R 4 0 0 53) #[(.ref oa), (.int 8), (.int vp), (.int vc)] Z h0 (own_QatD8 Z oa ua vp vc h0 n0) := by
  refine own_body (plainFor_of_name own_pn0) (fun m => own_ef_atD8 m oa vp vc ) ?_
  intro p e s m below meth c s₁ hx hby hret hlk hml hZ hown hnm hh X0 e0
  have N0 := Fr.nil n0
  have KK0 : Keep h0 h0 [] := Keep.refl h0 _
  obtain ⟨⟨G1, O2, P5⟩, ⟨G3, O4, rG3⟩, -⟩ := id hst
  refine own_to (V := s₁.setTop (mkF m 2 #[sR oa, sI 8, sI vp, sI vc] [(.ref oa), (.int 8)])) ?_ fun t k => (by
    refine XS.iloadN X0.here hx rfl (hb hby own_d0_0) rfl ?_
    refine XS.aloadN X0.here hx rfl (hb hby own_d0_1) rfl rfl ?_
    exact k)
  obtain ⟨sE102, sd102, sN102, sk102, sv102, sV102, sC102, sK102, sc102, sb102, sl102⟩ := id hS
  obtain ⟨cq101, kq101, q101a, q101b, q101c⟩ := isOf hZ e0 hS.1
  obtain ⟨_, _, ⟨T101, L101, k101, n101⟩, -, X101, ⟨Lc101, hQ101, l101, y101, z101⟩, st101⟩ := X0.virtualBack hx (y := own_mn1) (z := own_mn1) hown (mvT hZ (own_i hw 11 rfl)) (mvT hZ (own_i hw 12 rfl)) (notFace_of_selects (args := #[]) (mvT hZ (own_i hw 14 rfl))) (mvT hZ (own_i hw 14 rfl)) (mvT hZ (own_i hw 13 rfl)) (by decide) (StrChars.Road.lenW (W := 1) hZ (own_hln hw) (kI := 4) (own_i hw 2 rfl) sE102 sV102 sC102 sK102 sc102 sb102 (O2.ext X00.2) P5 sl102 (by decide) (by decide)) q101a q101c (g := (mkF m 2 #[sR oa, sI 8, sI vp, sI vc] [(.ref oa), (.int 8)])) rfl (by rw [hml]; rfl) (Steps.refl _) (argsL := []) (rest := [(.int 8)]) (lenOf own_pd0 rfl) rfl (by show 2 * 0 + _ ≤ _; exact Nat.le_of_eq rfl) (hb hby own_d0_2) (fun _ _ => ⟨rfl, e0, (by decide : 0 + 0 ≤ _), (by decide : 0 + 0 ≤ _)⟩)
  dsimp only [own_R, Pt.U, Pt.locs, Pt.cells, Pt.slots] at X101 l101 y101 z101 st101 hQ101
  subst y101 z101
  obtain ⟨hv101, hL101, hh101⟩ := hQ101
  subst hL101
  have N101 : Fr n0 L101 := by rw [l101]; exact Fr.app N0 (Fr.nil n0)
  subst hv101
  refine own_to ?_ (fun t k => st101.trans k)
  refine own_to (V := T101.setTop (mkF m 10 #[sR oa, sI 8, sI vp, sI vc] [(.int vp), (.int 8)])) ?_ fun t k => (by
    refine XS.icmpNo X101.here hx rfl (hb hby own_d0_5) rfl (tlt ((by decide) : (8 : Int32) < (11 : Int32))).2.1 ?_
    refine XS.iloadN X101.here hx rfl (hb hby own_d0_8) rfl ?_
    refine XS.iloadN X101.here hx rfl (hb hby own_d0_9) rfl ?_
    exact k)
  by_cases hc10_103 : (8 : Int32) = vp
  · skip
    refine own_to (V := T101.setTop (mkF m 22 #[sR oa, sI 8, sI vp, sI vc] [(.int vc)])) ?_ fun t k => (by
      refine XS.icmpNo X101.here hx rfl (hb hby own_d0_10) rfl (teq (hc10_103 : (8 : Int32) = vp)).2 ?_
      refine XS.iloadN X101.here hx rfl (hb hby own_d0_13) rfl ?_
      refine XS.goto X101.here hx rfl (pc0 := 14) (pc' := 22) rfl (hb hby own_d0_14) (by decide) (by decide) ?_
      exact k)
    exact own_retN X101 hx (t := .char) (w := vc) hret (by decide) (own_narC (own_up hc)) hlk (hb hby own_d0_22) (by rw [hh101]; exact (⟨vc, rfl, N101, KK0, (own_at_pos hc10_103), hc⟩)) (by decide) (by decide)
  · skip
    refine own_to (V := T101.setTop (mkF m 19 #[sR oa, sI 8, sI vp, sI vc] [(.int 8), (.ref oa)])) ?_ fun t k => (by
      refine XS.icmpYes X101.here hx rfl (pc0 := 10) (pc' := 17) rfl (hb hby own_d0_10) rfl (feq (hc10_103 : ¬ ((8 : Int32) = vp))).2 (by decide) (by decide) ?_
      refine XS.aloadN X101.here hx rfl (hb hby own_d0_17) rfl rfl ?_
      refine XS.iloadN X101.here hx rfl (hb hby own_d0_18) rfl ?_
      exact k)
    obtain ⟨sN105, sk105, sv105, sE105, sV105, sC105, sK105, sc105, sb105, sl105⟩ := own_Str.latin hS (own_lat2 (own_allS (by decide) (own_allS (by decide) (own_allS (by decide) (own_allS (by decide) (own_allS (by decide) (own_allS (by decide) (own_allS (by decide) (own_allS (by decide) (own_allS (by decide) (own_allS (by decide) (own_allS (by decide) own_all0))))))))))))
    obtain ⟨cq104, kq104, q104a, q104b, q104c⟩ := isOf hZ hh101 hS.1
    obtain ⟨_, _, ⟨T104, L104, k104, n104⟩, -, X104, ⟨Lc104, hQ104, l104, y104, z104⟩, st104⟩ := X101.virtualBack hx (y := own_mn2) (z := own_mn2) hown (mvT hZ (own_i hw 33 rfl)) (mvT hZ (own_i hw 34 rfl)) (notFace_of_selects (args := #[]) (mvT hZ (own_i hw 36 rfl))) (mvT hZ (own_i hw 36 rfl)) (mvT hZ (own_i hw 35 rfl)) (by decide) (StrChars.Road.chN (W := 0) hZ (own_hch hw) (kI := 4) (own_i hw 2 rfl) sE105 sV105 sC105 sK105 sc105 sb105 (O2.ext X00.2) P5 (O4.ext X00.2) rG3 sl105 (i := 8) (Nat.le_of_ble_eq_true rfl) (j := (8 : Int32)) rfl (by decide) (by decide)) q104a q104c (g := (mkF m 19 #[sR oa, sI 8, sI vp, sI vc] [(.int 8), (.ref oa)])) rfl (by rw [hml]; rfl) (Steps.refl _) (argsL := [(.int 8)]) (rest := []) (lenOf own_pd1 rfl) rfl (by show 2 * 0 + _ ≤ _; exact Nat.le_of_eq rfl) (hb hby own_d0_19) (fun _ _ => ⟨rfl, hh101, (by decide : 0 + 0 ≤ _), (by decide : 0 + 0 ≤ _)⟩)
    dsimp only [own_R, Pt.U, Pt.locs, Pt.cells, Pt.slots] at X104 l104 y104 z104 st104 hQ104
    subst y104 z104
    obtain ⟨hv104, hL104, hh104⟩ := hQ104
    subst hL104
    have N104 : Fr n0 L104 := by rw [l104]; exact Fr.app N101 (Fr.nil n0)
    subst hv104
    refine own_to ?_ (fun t k => st104.trans k)
    exact own_retN X104 hx (t := .char) (w := (101 : Int32)) hret (by decide) rfl hlk (hb hby own_d0_22) (by rw [hh104]; exact (⟨(101 : Int32), rfl, N104, KK0, (own_at_neg hc10_103), (by decide)⟩)) (by decide) (by decide)
def own_QatD9 (Z : State) (oa : Addr) (ua : Addr) (vp : Int32) (vc : Int32) (h0 : Heap) (n0 : Nat) (v : Option Value) (h : Heap) (L : List Loc) : Prop := (∃ (oc : Int32), v = some (.int oc) ∧ Fr n0 L ∧ Keep h0 h [] ∧ (oc = (own_at (9 : Int32) vp vc (110 : Int32))) ∧ (¬ oc < 0 ∧ ¬ (255 : Int32) < oc))
theorem own_ef_atD9 (m : MethodId) (oa : Addr) (vp : Int32) (vc : Int32)  : entryFrame m #[(.ref oa), (.int 9), (.int vp), (.int vc)] 4 = mkF m 0 #[sR oa, sI 9, sI vp, sI vc] [] := by first | (simp [entryFrame, mkF, argsToLocals, Value.category]; done) | rfl
set_option maxRecDepth 65536 in
set_option maxHeartbeats 40000000 in
theorem own_rmatD9 (l : Launch) (Z : State) (a0 : Array Value) (hw : ∀ d ∈ tables_1, d.before a0 Z = true) (hst : own_St Z) (ws : List Jvm.Cond) (oa : Addr) (ua : Addr) (vp : Int32) (vc : Int32) (h0 : Heap) (n0 : Nat) (X00 : Old Z n0 h0) (hS : own_Str Z h0 oa ua ([(68 : Int32), (101 : Int32), (118 : Int32), (101 : Int32), (108 : Int32), (111 : Int32), (112 : Int32), (109 : Int32), (101 : Int32), (110 : Int32), (116 : Int32)] : List Int32)) (hc : ¬ vc < 0 ∧ ¬ (255 : Int32) < vc) :
    own_MF l own_mn0 method_3_code 4 (Option.some Jvm.ClassFile.FieldType.char) ws (own_R 4 0 0 53) #[(.ref oa), (.int 9), (.int vp), (.int vc)] Z h0 (own_QatD9 Z oa ua vp vc h0 n0) := by
  refine own_body (plainFor_of_name own_pn0) (fun m => own_ef_atD9 m oa vp vc ) ?_
  intro p e s m below meth c s₁ hx hby hret hlk hml hZ hown hnm hh X0 e0
  have N0 := Fr.nil n0
  have KK0 : Keep h0 h0 [] := Keep.refl h0 _
  obtain ⟨⟨G1, O2, P5⟩, ⟨G3, O4, rG3⟩, -⟩ := id hst
  refine own_to (V := s₁.setTop (mkF m 2 #[sR oa, sI 9, sI vp, sI vc] [(.ref oa), (.int 9)])) ?_ fun t k => (by
    refine XS.iloadN X0.here hx rfl (hb hby own_d0_0) rfl ?_
    refine XS.aloadN X0.here hx rfl (hb hby own_d0_1) rfl rfl ?_
    exact k)
  obtain ⟨sE102, sd102, sN102, sk102, sv102, sV102, sC102, sK102, sc102, sb102, sl102⟩ := id hS
  obtain ⟨cq101, kq101, q101a, q101b, q101c⟩ := isOf hZ e0 hS.1
  obtain ⟨_, _, ⟨T101, L101, k101, n101⟩, -, X101, ⟨Lc101, hQ101, l101, y101, z101⟩, st101⟩ := X0.virtualBack hx (y := own_mn1) (z := own_mn1) hown (mvT hZ (own_i hw 11 rfl)) (mvT hZ (own_i hw 12 rfl)) (notFace_of_selects (args := #[]) (mvT hZ (own_i hw 14 rfl))) (mvT hZ (own_i hw 14 rfl)) (mvT hZ (own_i hw 13 rfl)) (by decide) (StrChars.Road.lenW (W := 1) hZ (own_hln hw) (kI := 4) (own_i hw 2 rfl) sE102 sV102 sC102 sK102 sc102 sb102 (O2.ext X00.2) P5 sl102 (by decide) (by decide)) q101a q101c (g := (mkF m 2 #[sR oa, sI 9, sI vp, sI vc] [(.ref oa), (.int 9)])) rfl (by rw [hml]; rfl) (Steps.refl _) (argsL := []) (rest := [(.int 9)]) (lenOf own_pd0 rfl) rfl (by show 2 * 0 + _ ≤ _; exact Nat.le_of_eq rfl) (hb hby own_d0_2) (fun _ _ => ⟨rfl, e0, (by decide : 0 + 0 ≤ _), (by decide : 0 + 0 ≤ _)⟩)
  dsimp only [own_R, Pt.U, Pt.locs, Pt.cells, Pt.slots] at X101 l101 y101 z101 st101 hQ101
  subst y101 z101
  obtain ⟨hv101, hL101, hh101⟩ := hQ101
  subst hL101
  have N101 : Fr n0 L101 := by rw [l101]; exact Fr.app N0 (Fr.nil n0)
  subst hv101
  refine own_to ?_ (fun t k => st101.trans k)
  refine own_to (V := T101.setTop (mkF m 10 #[sR oa, sI 9, sI vp, sI vc] [(.int vp), (.int 9)])) ?_ fun t k => (by
    refine XS.icmpNo X101.here hx rfl (hb hby own_d0_5) rfl (tlt ((by decide) : (9 : Int32) < (11 : Int32))).2.1 ?_
    refine XS.iloadN X101.here hx rfl (hb hby own_d0_8) rfl ?_
    refine XS.iloadN X101.here hx rfl (hb hby own_d0_9) rfl ?_
    exact k)
  by_cases hc10_103 : (9 : Int32) = vp
  · skip
    refine own_to (V := T101.setTop (mkF m 22 #[sR oa, sI 9, sI vp, sI vc] [(.int vc)])) ?_ fun t k => (by
      refine XS.icmpNo X101.here hx rfl (hb hby own_d0_10) rfl (teq (hc10_103 : (9 : Int32) = vp)).2 ?_
      refine XS.iloadN X101.here hx rfl (hb hby own_d0_13) rfl ?_
      refine XS.goto X101.here hx rfl (pc0 := 14) (pc' := 22) rfl (hb hby own_d0_14) (by decide) (by decide) ?_
      exact k)
    exact own_retN X101 hx (t := .char) (w := vc) hret (by decide) (own_narC (own_up hc)) hlk (hb hby own_d0_22) (by rw [hh101]; exact (⟨vc, rfl, N101, KK0, (own_at_pos hc10_103), hc⟩)) (by decide) (by decide)
  · skip
    refine own_to (V := T101.setTop (mkF m 19 #[sR oa, sI 9, sI vp, sI vc] [(.int 9), (.ref oa)])) ?_ fun t k => (by
      refine XS.icmpYes X101.here hx rfl (pc0 := 10) (pc' := 17) rfl (hb hby own_d0_10) rfl (feq (hc10_103 : ¬ ((9 : Int32) = vp))).2 (by decide) (by decide) ?_
      refine XS.aloadN X101.here hx rfl (hb hby own_d0_17) rfl rfl ?_
      refine XS.iloadN X101.here hx rfl (hb hby own_d0_18) rfl ?_
      exact k)
    obtain ⟨sN105, sk105, sv105, sE105, sV105, sC105, sK105, sc105, sb105, sl105⟩ := own_Str.latin hS (own_lat2 (own_allS (by decide) (own_allS (by decide) (own_allS (by decide) (own_allS (by decide) (own_allS (by decide) (own_allS (by decide) (own_allS (by decide) (own_allS (by decide) (own_allS (by decide) (own_allS (by decide) (own_allS (by decide) own_all0))))))))))))
    obtain ⟨cq104, kq104, q104a, q104b, q104c⟩ := isOf hZ hh101 hS.1
    obtain ⟨_, _, ⟨T104, L104, k104, n104⟩, -, X104, ⟨Lc104, hQ104, l104, y104, z104⟩, st104⟩ := X101.virtualBack hx (y := own_mn2) (z := own_mn2) hown (mvT hZ (own_i hw 33 rfl)) (mvT hZ (own_i hw 34 rfl)) (notFace_of_selects (args := #[]) (mvT hZ (own_i hw 36 rfl))) (mvT hZ (own_i hw 36 rfl)) (mvT hZ (own_i hw 35 rfl)) (by decide) (StrChars.Road.chN (W := 0) hZ (own_hch hw) (kI := 4) (own_i hw 2 rfl) sE105 sV105 sC105 sK105 sc105 sb105 (O2.ext X00.2) P5 (O4.ext X00.2) rG3 sl105 (i := 9) (Nat.le_of_ble_eq_true rfl) (j := (9 : Int32)) rfl (by decide) (by decide)) q104a q104c (g := (mkF m 19 #[sR oa, sI 9, sI vp, sI vc] [(.int 9), (.ref oa)])) rfl (by rw [hml]; rfl) (Steps.refl _) (argsL := [(.int 9)]) (rest := []) (lenOf own_pd1 rfl) rfl (by show 2 * 0 + _ ≤ _; exact Nat.le_of_eq rfl) (hb hby own_d0_19) (fun _ _ => ⟨rfl, hh101, (by decide : 0 + 0 ≤ _), (by decide : 0 + 0 ≤ _)⟩)
    dsimp only [own_R, Pt.U, Pt.locs, Pt.cells, Pt.slots] at X104 l104 y104 z104 st104 hQ104
    subst y104 z104
    obtain ⟨hv104, hL104, hh104⟩ := hQ104
    subst hL104
    have N104 : Fr n0 L104 := by rw [l104]; exact Fr.app N101 (Fr.nil n0)
    subst hv104
    refine own_to ?_ (fun t k => st104.trans k)
    exact own_retN X104 hx (t := .char) (w := (110 : Int32)) hret (by decide) rfl hlk (hb hby own_d0_22) (by rw [hh104]; exact (⟨(110 : Int32), rfl, N104, KK0, (own_at_neg hc10_103), (by decide)⟩)) (by decide) (by decide)
def own_QatD10 (Z : State) (oa : Addr) (ua : Addr) (vp : Int32) (vc : Int32) (h0 : Heap) (n0 : Nat) (v : Option Value) (h : Heap) (L : List Loc) : Prop := (∃ (oc : Int32), v = some (.int oc) ∧ Fr n0 L ∧ Keep h0 h [] ∧ (oc = (own_at (10 : Int32) vp vc (116 : Int32))) ∧ (¬ oc < 0 ∧ ¬ (255 : Int32) < oc))
theorem own_ef_atD10 (m : MethodId) (oa : Addr) (vp : Int32) (vc : Int32)  : entryFrame m #[(.ref oa), (.int 10), (.int vp), (.int vc)] 4 = mkF m 0 #[sR oa, sI 10, sI vp, sI vc] [] := by first | (simp [entryFrame, mkF, argsToLocals, Value.category]; done) | rfl
set_option maxRecDepth 65536 in
set_option maxHeartbeats 40000000 in
theorem own_rmatD10 (l : Launch) (Z : State) (a0 : Array Value) (hw : ∀ d ∈ tables_1, d.before a0 Z = true) (hst : own_St Z) (ws : List Jvm.Cond) (oa : Addr) (ua : Addr) (vp : Int32) (vc : Int32) (h0 : Heap) (n0 : Nat) (X00 : Old Z n0 h0) (hS : own_Str Z h0 oa ua ([(68 : Int32), (101 : Int32), (118 : Int32), (101 : Int32), (108 : Int32), (111 : Int32), (112 : Int32), (109 : Int32), (101 : Int32), (110 : Int32), (116 : Int32)] : List Int32)) (hc : ¬ vc < 0 ∧ ¬ (255 : Int32) < vc) :
    own_MF l own_mn0 method_3_code 4 (Option.some Jvm.ClassFile.FieldType.char) ws (own_R 4 0 0 53) #[(.ref oa), (.int 10), (.int vp), (.int vc)] Z h0 (own_QatD10 Z oa ua vp vc h0 n0) := by
  refine own_body (plainFor_of_name own_pn0) (fun m => own_ef_atD10 m oa vp vc ) ?_
  intro p e s m below meth c s₁ hx hby hret hlk hml hZ hown hnm hh X0 e0
  have N0 := Fr.nil n0
  have KK0 : Keep h0 h0 [] := Keep.refl h0 _
  obtain ⟨⟨G1, O2, P5⟩, ⟨G3, O4, rG3⟩, -⟩ := id hst
  refine own_to (V := s₁.setTop (mkF m 2 #[sR oa, sI 10, sI vp, sI vc] [(.ref oa), (.int 10)])) ?_ fun t k => (by
    refine XS.iloadN X0.here hx rfl (hb hby own_d0_0) rfl ?_
    refine XS.aloadN X0.here hx rfl (hb hby own_d0_1) rfl rfl ?_
    exact k)
  obtain ⟨sE102, sd102, sN102, sk102, sv102, sV102, sC102, sK102, sc102, sb102, sl102⟩ := id hS
  obtain ⟨cq101, kq101, q101a, q101b, q101c⟩ := isOf hZ e0 hS.1
  obtain ⟨_, _, ⟨T101, L101, k101, n101⟩, -, X101, ⟨Lc101, hQ101, l101, y101, z101⟩, st101⟩ := X0.virtualBack hx (y := own_mn1) (z := own_mn1) hown (mvT hZ (own_i hw 11 rfl)) (mvT hZ (own_i hw 12 rfl)) (notFace_of_selects (args := #[]) (mvT hZ (own_i hw 14 rfl))) (mvT hZ (own_i hw 14 rfl)) (mvT hZ (own_i hw 13 rfl)) (by decide) (StrChars.Road.lenW (W := 1) hZ (own_hln hw) (kI := 4) (own_i hw 2 rfl) sE102 sV102 sC102 sK102 sc102 sb102 (O2.ext X00.2) P5 sl102 (by decide) (by decide)) q101a q101c (g := (mkF m 2 #[sR oa, sI 10, sI vp, sI vc] [(.ref oa), (.int 10)])) rfl (by rw [hml]; rfl) (Steps.refl _) (argsL := []) (rest := [(.int 10)]) (lenOf own_pd0 rfl) rfl (by show 2 * 0 + _ ≤ _; exact Nat.le_of_eq rfl) (hb hby own_d0_2) (fun _ _ => ⟨rfl, e0, (by decide : 0 + 0 ≤ _), (by decide : 0 + 0 ≤ _)⟩)
  dsimp only [own_R, Pt.U, Pt.locs, Pt.cells, Pt.slots] at X101 l101 y101 z101 st101 hQ101
  subst y101 z101
  obtain ⟨hv101, hL101, hh101⟩ := hQ101
  subst hL101
  have N101 : Fr n0 L101 := by rw [l101]; exact Fr.app N0 (Fr.nil n0)
  subst hv101
  refine own_to ?_ (fun t k => st101.trans k)
  refine own_to (V := T101.setTop (mkF m 10 #[sR oa, sI 10, sI vp, sI vc] [(.int vp), (.int 10)])) ?_ fun t k => (by
    refine XS.icmpNo X101.here hx rfl (hb hby own_d0_5) rfl (tlt ((by decide) : (10 : Int32) < (11 : Int32))).2.1 ?_
    refine XS.iloadN X101.here hx rfl (hb hby own_d0_8) rfl ?_
    refine XS.iloadN X101.here hx rfl (hb hby own_d0_9) rfl ?_
    exact k)
  by_cases hc10_103 : (10 : Int32) = vp
  · skip
    refine own_to (V := T101.setTop (mkF m 22 #[sR oa, sI 10, sI vp, sI vc] [(.int vc)])) ?_ fun t k => (by
      refine XS.icmpNo X101.here hx rfl (hb hby own_d0_10) rfl (teq (hc10_103 : (10 : Int32) = vp)).2 ?_
      refine XS.iloadN X101.here hx rfl (hb hby own_d0_13) rfl ?_
      refine XS.goto X101.here hx rfl (pc0 := 14) (pc' := 22) rfl (hb hby own_d0_14) (by decide) (by decide) ?_
      exact k)
    exact own_retN X101 hx (t := .char) (w := vc) hret (by decide) (own_narC (own_up hc)) hlk (hb hby own_d0_22) (by rw [hh101]; exact (⟨vc, rfl, N101, KK0, (own_at_pos hc10_103), hc⟩)) (by decide) (by decide)
  · skip
    refine own_to (V := T101.setTop (mkF m 19 #[sR oa, sI 10, sI vp, sI vc] [(.int 10), (.ref oa)])) ?_ fun t k => (by
      refine XS.icmpYes X101.here hx rfl (pc0 := 10) (pc' := 17) rfl (hb hby own_d0_10) rfl (feq (hc10_103 : ¬ ((10 : Int32) = vp))).2 (by decide) (by decide) ?_
      refine XS.aloadN X101.here hx rfl (hb hby own_d0_17) rfl rfl ?_
      refine XS.iloadN X101.here hx rfl (hb hby own_d0_18) rfl ?_
      exact k)
    obtain ⟨sN105, sk105, sv105, sE105, sV105, sC105, sK105, sc105, sb105, sl105⟩ := own_Str.latin hS (own_lat2 (own_allS (by decide) (own_allS (by decide) (own_allS (by decide) (own_allS (by decide) (own_allS (by decide) (own_allS (by decide) (own_allS (by decide) (own_allS (by decide) (own_allS (by decide) (own_allS (by decide) (own_allS (by decide) own_all0))))))))))))
    obtain ⟨cq104, kq104, q104a, q104b, q104c⟩ := isOf hZ hh101 hS.1
    obtain ⟨_, _, ⟨T104, L104, k104, n104⟩, -, X104, ⟨Lc104, hQ104, l104, y104, z104⟩, st104⟩ := X101.virtualBack hx (y := own_mn2) (z := own_mn2) hown (mvT hZ (own_i hw 33 rfl)) (mvT hZ (own_i hw 34 rfl)) (notFace_of_selects (args := #[]) (mvT hZ (own_i hw 36 rfl))) (mvT hZ (own_i hw 36 rfl)) (mvT hZ (own_i hw 35 rfl)) (by decide) (StrChars.Road.chN (W := 0) hZ (own_hch hw) (kI := 4) (own_i hw 2 rfl) sE105 sV105 sC105 sK105 sc105 sb105 (O2.ext X00.2) P5 (O4.ext X00.2) rG3 sl105 (i := 10) (Nat.le_of_ble_eq_true rfl) (j := (10 : Int32)) rfl (by decide) (by decide)) q104a q104c (g := (mkF m 19 #[sR oa, sI 10, sI vp, sI vc] [(.int 10), (.ref oa)])) rfl (by rw [hml]; rfl) (Steps.refl _) (argsL := [(.int 10)]) (rest := []) (lenOf own_pd1 rfl) rfl (by show 2 * 0 + _ ≤ _; exact Nat.le_of_eq rfl) (hb hby own_d0_19) (fun _ _ => ⟨rfl, hh101, (by decide : 0 + 0 ≤ _), (by decide : 0 + 0 ≤ _)⟩)
    dsimp only [own_R, Pt.U, Pt.locs, Pt.cells, Pt.slots] at X104 l104 y104 z104 st104 hQ104
    subst y104 z104
    obtain ⟨hv104, hL104, hh104⟩ := hQ104
    subst hL104
    have N104 : Fr n0 L104 := by rw [l104]; exact Fr.app N101 (Fr.nil n0)
    subst hv104
    refine own_to ?_ (fun t k => st104.trans k)
    exact own_retN X104 hx (t := .char) (w := (116 : Int32)) hret (by decide) rfl hlk (hb hby own_d0_22) (by rw [hh104]; exact (⟨(116 : Int32), rfl, N104, KK0, (own_at_neg hc10_103), (by decide)⟩)) (by decide) (by decide)
def own_QatD11 (Z : State) (oa : Addr) (ua : Addr) (vp : Int32) (vc : Int32) (h0 : Heap) (n0 : Nat) (v : Option Value) (h : Heap) (L : List Loc) : Prop := (∃ (oc : Int32), v = some (.int oc) ∧ Fr n0 L ∧ Keep h0 h [] ∧ (oc = vc) ∧ (¬ oc < 0 ∧ ¬ (255 : Int32) < oc))
theorem own_ef_atD11 (m : MethodId) (oa : Addr) (vp : Int32) (vc : Int32)  : entryFrame m #[(.ref oa), (.int 11), (.int vp), (.int vc)] 4 = mkF m 0 #[sR oa, sI 11, sI vp, sI vc] [] := by first | (simp [entryFrame, mkF, argsToLocals, Value.category]; done) | rfl
set_option maxRecDepth 65536 in
set_option maxHeartbeats 40000000 in
theorem own_rmatD11 (l : Launch) (Z : State) (a0 : Array Value) (hw : ∀ d ∈ tables_1, d.before a0 Z = true) (hst : own_St Z) (ws : List Jvm.Cond) (oa : Addr) (ua : Addr) (vp : Int32) (vc : Int32) (h0 : Heap) (n0 : Nat) (X00 : Old Z n0 h0) (hS : own_Str Z h0 oa ua ([(68 : Int32), (101 : Int32), (118 : Int32), (101 : Int32), (108 : Int32), (111 : Int32), (112 : Int32), (109 : Int32), (101 : Int32), (110 : Int32), (116 : Int32)] : List Int32)) (hc : ¬ vc < 0 ∧ ¬ (255 : Int32) < vc) :
    own_MF l own_mn0 method_3_code 4 (Option.some Jvm.ClassFile.FieldType.char) ws (own_R 2 0 0 26) #[(.ref oa), (.int 11), (.int vp), (.int vc)] Z h0 (own_QatD11 Z oa ua vp vc h0 n0) := by
  refine own_body (plainFor_of_name own_pn0) (fun m => own_ef_atD11 m oa vp vc ) ?_
  intro p e s m below meth c s₁ hx hby hret hlk hml hZ hown hnm hh X0 e0
  have N0 := Fr.nil n0
  have KK0 : Keep h0 h0 [] := Keep.refl h0 _
  obtain ⟨⟨G1, O2, P5⟩, ⟨G3, O4, rG3⟩, -⟩ := id hst
  refine own_to (V := s₁.setTop (mkF m 2 #[sR oa, sI 11, sI vp, sI vc] [(.ref oa), (.int 11)])) ?_ fun t k => (by
    refine XS.iloadN X0.here hx rfl (hb hby own_d0_0) rfl ?_
    refine XS.aloadN X0.here hx rfl (hb hby own_d0_1) rfl rfl ?_
    exact k)
  obtain ⟨sE102, sd102, sN102, sk102, sv102, sV102, sC102, sK102, sc102, sb102, sl102⟩ := id hS
  obtain ⟨cq101, kq101, q101a, q101b, q101c⟩ := isOf hZ e0 hS.1
  obtain ⟨_, _, ⟨T101, L101, k101, n101⟩, -, X101, ⟨Lc101, hQ101, l101, y101, z101⟩, st101⟩ := X0.virtualBack hx (y := own_mn1) (z := own_mn1) hown (mvT hZ (own_i hw 11 rfl)) (mvT hZ (own_i hw 12 rfl)) (notFace_of_selects (args := #[]) (mvT hZ (own_i hw 14 rfl))) (mvT hZ (own_i hw 14 rfl)) (mvT hZ (own_i hw 13 rfl)) (by decide) (StrChars.Road.lenW (W := 1) hZ (own_hln hw) (kI := 4) (own_i hw 2 rfl) sE102 sV102 sC102 sK102 sc102 sb102 (O2.ext X00.2) P5 sl102 (by decide) (by decide)) q101a q101c (g := (mkF m 2 #[sR oa, sI 11, sI vp, sI vc] [(.ref oa), (.int 11)])) rfl (by rw [hml]; rfl) (Steps.refl _) (argsL := []) (rest := [(.int 11)]) (lenOf own_pd0 rfl) rfl (by show 2 * 0 + _ ≤ _; exact Nat.le_of_eq rfl) (hb hby own_d0_2) (fun _ _ => ⟨rfl, e0, (by decide : 0 + 0 ≤ _), (by decide : 0 + 0 ≤ _)⟩)
  dsimp only [own_R, Pt.U, Pt.locs, Pt.cells, Pt.slots] at X101 l101 y101 z101 st101 hQ101
  subst y101 z101
  obtain ⟨hv101, hL101, hh101⟩ := hQ101
  subst hL101
  have N101 : Fr n0 L101 := by rw [l101]; exact Fr.app N0 (Fr.nil n0)
  subst hv101
  refine own_to ?_ (fun t k => st101.trans k)
  refine own_to (V := T101.setTop (mkF m 24 #[sR oa, sI 11, sI vp, sI vc] [(.int vc)])) ?_ fun t k => (by
    refine XS.icmpYes X101.here hx rfl (pc0 := 5) (pc' := 23) rfl (hb hby own_d0_5) rfl (flt ((by decide) : ¬ ((11 : Int32) < (11 : Int32)))).2.1 (by decide) (by decide) ?_
    refine XS.iloadN X101.here hx rfl (hb hby own_d0_23) rfl ?_
    exact k)
  exact own_retN X101 hx (t := .char) (w := vc) hret (by decide) (own_narC (own_up hc)) hlk (hb hby own_d0_24) (by rw [hh101]; exact (⟨vc, rfl, N101, KK0, rfl, hc⟩)) (by decide) (by decide)
def own_QmkP9 (Z : State) (oa : Addr) (ua : Addr) (vp : Int32) (vc : Int32) (h0 : Heap) (n0 : Nat) (v : Option Value) (h : Heap) (L : List Loc) : Prop := (∃ (oo : Addr) (ou : Addr), v = some (.ref oo) ∧ Fr n0 L ∧ Keep h0 h [] ∧ (own_Str Z h oo ou ([(own_at (0 : Int32) vp vc (80 : Int32)), (own_at (1 : Int32) vp vc (114 : Int32)), (own_at (2 : Int32) vp vc (111 : Int32)), (own_at (3 : Int32) vp vc (100 : Int32)), (own_at (4 : Int32) vp vc (117 : Int32)), (own_at (5 : Int32) vp vc (99 : Int32)), (own_at (6 : Int32) vp vc (116 : Int32)), (own_at (7 : Int32) vp vc (105 : Int32)), (own_at (8 : Int32) vp vc (111 : Int32))] : List Int32)))
theorem own_ef_mkP9 (m : MethodId) (oa : Addr) (vp : Int32) (vc : Int32)  : entryFrame m #[(.ref oa), (.int 9), (.int vp), (.int vc)] 5 = mkF m 0 #[sR oa, sI 9, sI vp, sI vc, .unset] [] := by first | (simp [entryFrame, mkF, argsToLocals, Value.category]; done) | rfl
set_option maxRecDepth 65536 in
set_option maxHeartbeats 40000000 in
theorem own_rmmkP9 (l : Launch) (Z : State) (a0 : Array Value) (hw : ∀ d ∈ tables_1, d.before a0 Z = true) (hst : own_St Z) (ws : List Jvm.Cond) (oa : Addr) (ua : Addr) (vp : Int32) (vc : Int32) (h0 : Heap) (n0 : Nat) (X00 : Old Z n0 h0) (hS : own_Str Z h0 oa ua ([(80 : Int32), (114 : Int32), (111 : Int32), (100 : Int32), (117 : Int32), (99 : Int32), (116 : Int32), (105 : Int32), (111 : Int32), (110 : Int32)] : List Int32)) (hc : ¬ vc < 0 ∧ ¬ (255 : Int32) < vc) :
    own_MF l own_mn3 method_4_code 5 (Option.some (Jvm.ClassFile.FieldType.object "java/lang/String")) ws (own_R 5 3 22 70) #[(.ref oa), (.int 9), (.int vp), (.int vc)] Z h0 (own_QmkP9 Z oa ua vp vc h0 n0) := by
  refine own_body (plainFor_of_name own_pn0) (fun m => own_ef_mkP9 m oa vp vc ) ?_
  intro p e s m below meth c s₁ hx hby hret hlk hml hZ hown hnm hh X0 e0
  have N0 := Fr.nil n0
  have KK0 : Keep h0 h0 [] := Keep.refl h0 _
  obtain ⟨⟨G1, O2, P5⟩, ⟨G3, O4, rG3⟩, -⟩ := id hst
  refine own_to (V := s₁.setTop (mkF m 8 #[sR oa, sI 9, sI vp, sI vc, .unset] [(.int 9)])) ?_ fun t k => (by
    refine XS.iloadN X0.here hx rfl (hb hby own_d1_0) rfl ?_
    refine XS.bipush X0.here hx rfl (hb hby own_d1_1) ?_
    refine XS.icmpNo X0.here hx rfl (hb hby own_d1_3) rfl (teq ((by decide) : (9 : Int32) = (9 : Int32))).2 ?_
    refine XS.bipush X0.here hx rfl (hb hby own_d1_6) ?_
    exact k)
  obtain ⟨T101, h101, k101, X101, e101, E101, A101, st101⟩ := newP X0 hx hZ (own_i hw 29 rfl) e0 (g := (mkF m 8 #[sR oa, sI 9, sI vp, sI vc, .unset] [(.int 9)])) rfl (hb hby own_d1_8) rfl (by decide) (cap := 9) (by decide) (by decide) (by decide) (by decide)
  obtain ⟨b101, g101⟩ : ∃ z, z = h0.size := ⟨_, rfl⟩
  rw [← g101] at A101 st101
  have Xo101 := X00.ext E101
  have KK101 := KK0.ext E101
  have ge_b101 := Nat.le_trans (own_ole X00) (Nat.le_of_eq g101.symm)
  have sz_b101 := Nat.le_trans KK0.1 (Nat.le_of_eq g101.symm)
  have V101 : Arv Z h101 b101 k101 .char (9 : Int32) [(.int 0), (.int 0), (.int 0), (.int 0), (.int 0), (.int 0), (.int 0), (.int 0), (.int 0)] (.int (0 : Int32)) := (Arv.new A101 (by decide)).pad (pad_rep [] (.int (0 : Int32)) 9)
  refine own_to ?_ st101
  refine own_to (V := T101.setTop (mkF m 19 #[sR oa, sI 9, sI vp, sI vc, sR b101] [(.int vc), (.int vp), (.int 0), (.ref oa), (.int 0), (.ref b101)])) ?_ fun t k => (by
    refine XS.astore X101.here hx rfl (hb hby own_d1_10) rfl rfl (l' := #[sR oa, sI 9, sI vp, sI vc, sR b101]) rfl ?_
    refine XS.aload X101.here hx rfl (hb hby own_d1_12) rfl rfl ?_
    refine XS.iconst X101.here hx rfl (hb hby own_d1_14) ?_
    refine XS.aloadN X101.here hx rfl (hb hby own_d1_15) rfl rfl ?_
    refine XS.iconst X101.here hx rfl (hb hby own_d1_16) ?_
    refine XS.iloadN X101.here hx rfl (hb hby own_d1_17) rfl ?_
    refine XS.iloadN X101.here hx rfl (hb hby own_d1_18) rfl ?_
    exact k)
  have F103 := (hS.ext E101)
  obtain ⟨_, _, ⟨T102, L102, k102, n102⟩, -, X102, ⟨Lc102, hQ102, l102, y102, z102⟩, st102⟩ := Jvm.LawKit.callS X101 hx (y := own_mn0) hown (mvT hZ (own_i hw 30 rfl)) (mvT hZ (own_i hw 31 rfl)) (mvT hZ (own_i hw 27 rfl)) (mvT hZ (own_i hw 32 rfl)) (by decide) (backOf (W := 2) (own_rmatP0 l Z a0 hw hst [] oa ua vp vc h101 n0 Xo101 F103 hc) hZ (own_i hw 32 rfl) (own_i hw 27 rfl) (by decide) (by decide)) (g := (mkF m 19 #[sR oa, sI 9, sI vp, sI vc, sR b101] [(.int vc), (.int vp), (.int 0), (.ref oa), (.int 0), (.ref b101)])) rfl (by rw [hml]; rfl) (argsL := [(.ref oa), (.int 0), (.int vp), (.int vc)]) (rest := [(.int 0), (.ref b101)]) (lenOf own_pd2 rfl) rfl (by show 2 * 0 + _ ≤ _; exact Nat.le_of_eq rfl) (hb hby own_d1_19) (fun _ _ => ⟨rfl, e101, (by decide : 1 + 0 ≤ _), (by decide : 9 + 0 ≤ _)⟩)
  dsimp only [own_R, Pt.U, Pt.locs, Pt.cells, Pt.slots] at X102 l102 y102 z102 st102 hQ102
  subst y102 z102
  obtain ⟨oc102, hv102, N102q, K102, g102_0, g102_1⟩ := hQ102
  subst hv102
  obtain ⟨h102, e102⟩ : ∃ z, T102.heap = z := ⟨_, rfl⟩
  rw [e102] at K102
  have Xo102 := Xo101.keep K102 all0
  have KK102 := KK101.trans K102 all0
  have N102 : Fr n0 L102 := by rw [l102]; exact Fr.app N0 N102q
  refine own_to ?_ st102
  have F104 := (V101.keep K102 List.not_mem_nil)
  obtain ⟨cl105, Ar105, q105, S105, M105, H105, G105⟩ := id F104
  obtain ⟨T105, h105, X105, e105, W105, st105⟩ := stC X102 hx hZ e102 Ar105 (j := (0 : Int32)) (inb_of S105 ⟨by decide, by decide⟩) (g := (mkF m 22 #[sR oa, sI 9, sI vp, sI vc, sR b101] [(.int oc102), (.int 0), (.ref b101)])) rfl rfl (hb hby own_d1_22)
  rw [own_narC (own_up g102_1)] at W105
  have Xo105 := Xo102.wr W105 ge_b101
  have KK105 := KK102.wr W105 (Or.inr sz_b101)
  have V105 : Arv Z h105 b101 k101 .char (9 : Int32) [(.int oc102), (.int 0), (.int 0), (.int 0), (.int 0), (.int 0), (.int 0), (.int 0), (.int 0)] (.int (0 : Int32)) := Arv.set Ar105 q105 S105 M105 H105 G105 (own_fitC (own_up g102_1)) W105 0 rfl (Nat.le_of_ble_eq_true rfl)
  have N105 := Fr.snoc X105 N102 ge_b101
  refine own_to ?_ st105
  refine own_to (V := T105.setTop (mkF m 30 #[sR oa, sI 9, sI vp, sI vc, sR b101] [(.int vc), (.int vp), (.int 1), (.ref oa), (.int 1), (.ref b101)])) ?_ fun t k => (by
    refine XS.aload X105.here hx rfl (hb hby own_d1_23) rfl rfl ?_
    refine XS.iconst X105.here hx rfl (hb hby own_d1_25) ?_
    refine XS.aloadN X105.here hx rfl (hb hby own_d1_26) rfl rfl ?_
    refine XS.iconst X105.here hx rfl (hb hby own_d1_27) ?_
    refine XS.iloadN X105.here hx rfl (hb hby own_d1_28) rfl ?_
    refine XS.iloadN X105.here hx rfl (hb hby own_d1_29) rfl ?_
    exact k)
  have F107 := ((F103.keep K102 List.not_mem_nil List.not_mem_nil).wr W105 (Nat.ne_of_lt (Nat.lt_of_lt_of_le hS.lt (Nat.le_of_eq g101.symm))) (Nat.ne_of_lt (Nat.lt_of_lt_of_le hS.lt2 (Nat.le_of_eq g101.symm))))
  obtain ⟨_, _, ⟨T106, L106, k106, n106⟩, -, X106, ⟨Lc106, hQ106, l106, y106, z106⟩, st106⟩ := Jvm.LawKit.callS X105 hx (y := own_mn0) hown (mvT hZ (own_i hw 30 rfl)) (mvT hZ (own_i hw 31 rfl)) (mvT hZ (own_i hw 27 rfl)) (mvT hZ (own_i hw 32 rfl)) (by decide) (backOf (W := 2) (own_rmatP1 l Z a0 hw hst [] oa ua vp vc h105 n0 Xo105 F107 hc) hZ (own_i hw 32 rfl) (own_i hw 27 rfl) (by decide) (by decide)) (g := (mkF m 30 #[sR oa, sI 9, sI vp, sI vc, sR b101] [(.int vc), (.int vp), (.int 1), (.ref oa), (.int 1), (.ref b101)])) rfl (by rw [hml]; rfl) (argsL := [(.ref oa), (.int 1), (.int vp), (.int vc)]) (rest := [(.int 1), (.ref b101)]) (lenOf own_pd2 rfl) rfl (by show 2 * 0 + _ ≤ _; exact Nat.le_of_eq rfl) (hb hby own_d1_30) (fun _ _ => ⟨rfl, e105, (by decide : 1 + 0 ≤ _), (by decide : 9 + 0 ≤ _)⟩)
  dsimp only [own_R, Pt.U, Pt.locs, Pt.cells, Pt.slots] at X106 l106 y106 z106 st106 hQ106
  subst y106 z106
  obtain ⟨oc106, hv106, N106q, K106, g106_0, g106_1⟩ := hQ106
  subst hv106
  obtain ⟨h106, e106⟩ : ∃ z, T106.heap = z := ⟨_, rfl⟩
  rw [e106] at K106
  have Xo106 := Xo105.keep K106 all0
  have KK106 := KK105.trans K106 all0
  have N106 : Fr n0 L106 := by rw [l106]; exact Fr.app N105 N106q
  refine own_to ?_ st106
  have F108 := (V105.keep K106 List.not_mem_nil)
  obtain ⟨cl109, Ar109, q109, S109, M109, H109, G109⟩ := id F108
  obtain ⟨T109, h109, X109, e109, W109, st109⟩ := stC X106 hx hZ e106 Ar109 (j := (1 : Int32)) (inb_of S109 ⟨by decide, by decide⟩) (g := (mkF m 33 #[sR oa, sI 9, sI vp, sI vc, sR b101] [(.int oc106), (.int 1), (.ref b101)])) rfl rfl (hb hby own_d1_33)
  rw [own_narC (own_up g106_1)] at W109
  have Xo109 := Xo106.wr W109 ge_b101
  have KK109 := KK106.wr W109 (Or.inr sz_b101)
  have V109 : Arv Z h109 b101 k101 .char (9 : Int32) [(.int oc102), (.int oc106), (.int 0), (.int 0), (.int 0), (.int 0), (.int 0), (.int 0), (.int 0)] (.int (0 : Int32)) := Arv.set Ar109 q109 S109 M109 H109 G109 (own_fitC (own_up g106_1)) W109 1 rfl (Nat.le_of_ble_eq_true rfl)
  have N109 := Fr.snoc X109 N106 ge_b101
  refine own_to ?_ st109
  refine own_to (V := T109.setTop (mkF m 41 #[sR oa, sI 9, sI vp, sI vc, sR b101] [(.int vc), (.int vp), (.int 2), (.ref oa), (.int 2), (.ref b101)])) ?_ fun t k => (by
    refine XS.aload X109.here hx rfl (hb hby own_d1_34) rfl rfl ?_
    refine XS.iconst X109.here hx rfl (hb hby own_d1_36) ?_
    refine XS.aloadN X109.here hx rfl (hb hby own_d1_37) rfl rfl ?_
    refine XS.iconst X109.here hx rfl (hb hby own_d1_38) ?_
    refine XS.iloadN X109.here hx rfl (hb hby own_d1_39) rfl ?_
    refine XS.iloadN X109.here hx rfl (hb hby own_d1_40) rfl ?_
    exact k)
  have F111 := ((F107.keep K106 List.not_mem_nil List.not_mem_nil).wr W109 (Nat.ne_of_lt (Nat.lt_of_lt_of_le hS.lt (Nat.le_of_eq g101.symm))) (Nat.ne_of_lt (Nat.lt_of_lt_of_le hS.lt2 (Nat.le_of_eq g101.symm))))
  obtain ⟨_, _, ⟨T110, L110, k110, n110⟩, -, X110, ⟨Lc110, hQ110, l110, y110, z110⟩, st110⟩ := Jvm.LawKit.callS X109 hx (y := own_mn0) hown (mvT hZ (own_i hw 30 rfl)) (mvT hZ (own_i hw 31 rfl)) (mvT hZ (own_i hw 27 rfl)) (mvT hZ (own_i hw 32 rfl)) (by decide) (backOf (W := 2) (own_rmatP2 l Z a0 hw hst [] oa ua vp vc h109 n0 Xo109 F111 hc) hZ (own_i hw 32 rfl) (own_i hw 27 rfl) (by decide) (by decide)) (g := (mkF m 41 #[sR oa, sI 9, sI vp, sI vc, sR b101] [(.int vc), (.int vp), (.int 2), (.ref oa), (.int 2), (.ref b101)])) rfl (by rw [hml]; rfl) (argsL := [(.ref oa), (.int 2), (.int vp), (.int vc)]) (rest := [(.int 2), (.ref b101)]) (lenOf own_pd2 rfl) rfl (by show 2 * 0 + _ ≤ _; exact Nat.le_of_eq rfl) (hb hby own_d1_41) (fun _ _ => ⟨rfl, e109, (by decide : 1 + 0 ≤ _), (by decide : 9 + 0 ≤ _)⟩)
  dsimp only [own_R, Pt.U, Pt.locs, Pt.cells, Pt.slots] at X110 l110 y110 z110 st110 hQ110
  subst y110 z110
  obtain ⟨oc110, hv110, N110q, K110, g110_0, g110_1⟩ := hQ110
  subst hv110
  obtain ⟨h110, e110⟩ : ∃ z, T110.heap = z := ⟨_, rfl⟩
  rw [e110] at K110
  have Xo110 := Xo109.keep K110 all0
  have KK110 := KK109.trans K110 all0
  have N110 : Fr n0 L110 := by rw [l110]; exact Fr.app N109 N110q
  refine own_to ?_ st110
  have F112 := (V109.keep K110 List.not_mem_nil)
  obtain ⟨cl113, Ar113, q113, S113, M113, H113, G113⟩ := id F112
  obtain ⟨T113, h113, X113, e113, W113, st113⟩ := stC X110 hx hZ e110 Ar113 (j := (2 : Int32)) (inb_of S113 ⟨by decide, by decide⟩) (g := (mkF m 44 #[sR oa, sI 9, sI vp, sI vc, sR b101] [(.int oc110), (.int 2), (.ref b101)])) rfl rfl (hb hby own_d1_44)
  rw [own_narC (own_up g110_1)] at W113
  have Xo113 := Xo110.wr W113 ge_b101
  have KK113 := KK110.wr W113 (Or.inr sz_b101)
  have V113 : Arv Z h113 b101 k101 .char (9 : Int32) [(.int oc102), (.int oc106), (.int oc110), (.int 0), (.int 0), (.int 0), (.int 0), (.int 0), (.int 0)] (.int (0 : Int32)) := Arv.set Ar113 q113 S113 M113 H113 G113 (own_fitC (own_up g110_1)) W113 2 rfl (Nat.le_of_ble_eq_true rfl)
  have N113 := Fr.snoc X113 N110 ge_b101
  refine own_to ?_ st113
  refine own_to (V := T113.setTop (mkF m 52 #[sR oa, sI 9, sI vp, sI vc, sR b101] [(.int vc), (.int vp), (.int 3), (.ref oa), (.int 3), (.ref b101)])) ?_ fun t k => (by
    refine XS.aload X113.here hx rfl (hb hby own_d1_45) rfl rfl ?_
    refine XS.iconst X113.here hx rfl (hb hby own_d1_47) ?_
    refine XS.aloadN X113.here hx rfl (hb hby own_d1_48) rfl rfl ?_
    refine XS.iconst X113.here hx rfl (hb hby own_d1_49) ?_
    refine XS.iloadN X113.here hx rfl (hb hby own_d1_50) rfl ?_
    refine XS.iloadN X113.here hx rfl (hb hby own_d1_51) rfl ?_
    exact k)
  have F115 := ((F111.keep K110 List.not_mem_nil List.not_mem_nil).wr W113 (Nat.ne_of_lt (Nat.lt_of_lt_of_le hS.lt (Nat.le_of_eq g101.symm))) (Nat.ne_of_lt (Nat.lt_of_lt_of_le hS.lt2 (Nat.le_of_eq g101.symm))))
  obtain ⟨_, _, ⟨T114, L114, k114, n114⟩, -, X114, ⟨Lc114, hQ114, l114, y114, z114⟩, st114⟩ := Jvm.LawKit.callS X113 hx (y := own_mn0) hown (mvT hZ (own_i hw 30 rfl)) (mvT hZ (own_i hw 31 rfl)) (mvT hZ (own_i hw 27 rfl)) (mvT hZ (own_i hw 32 rfl)) (by decide) (backOf (W := 2) (own_rmatP3 l Z a0 hw hst [] oa ua vp vc h113 n0 Xo113 F115 hc) hZ (own_i hw 32 rfl) (own_i hw 27 rfl) (by decide) (by decide)) (g := (mkF m 52 #[sR oa, sI 9, sI vp, sI vc, sR b101] [(.int vc), (.int vp), (.int 3), (.ref oa), (.int 3), (.ref b101)])) rfl (by rw [hml]; rfl) (argsL := [(.ref oa), (.int 3), (.int vp), (.int vc)]) (rest := [(.int 3), (.ref b101)]) (lenOf own_pd2 rfl) rfl (by show 2 * 0 + _ ≤ _; exact Nat.le_of_eq rfl) (hb hby own_d1_52) (fun _ _ => ⟨rfl, e113, (by decide : 1 + 0 ≤ _), (by decide : 9 + 0 ≤ _)⟩)
  dsimp only [own_R, Pt.U, Pt.locs, Pt.cells, Pt.slots] at X114 l114 y114 z114 st114 hQ114
  subst y114 z114
  obtain ⟨oc114, hv114, N114q, K114, g114_0, g114_1⟩ := hQ114
  subst hv114
  obtain ⟨h114, e114⟩ : ∃ z, T114.heap = z := ⟨_, rfl⟩
  rw [e114] at K114
  have Xo114 := Xo113.keep K114 all0
  have KK114 := KK113.trans K114 all0
  have N114 : Fr n0 L114 := by rw [l114]; exact Fr.app N113 N114q
  refine own_to ?_ st114
  have F116 := (V113.keep K114 List.not_mem_nil)
  obtain ⟨cl117, Ar117, q117, S117, M117, H117, G117⟩ := id F116
  obtain ⟨T117, h117, X117, e117, W117, st117⟩ := stC X114 hx hZ e114 Ar117 (j := (3 : Int32)) (inb_of S117 ⟨by decide, by decide⟩) (g := (mkF m 55 #[sR oa, sI 9, sI vp, sI vc, sR b101] [(.int oc114), (.int 3), (.ref b101)])) rfl rfl (hb hby own_d1_55)
  rw [own_narC (own_up g114_1)] at W117
  have Xo117 := Xo114.wr W117 ge_b101
  have KK117 := KK114.wr W117 (Or.inr sz_b101)
  have V117 : Arv Z h117 b101 k101 .char (9 : Int32) [(.int oc102), (.int oc106), (.int oc110), (.int oc114), (.int 0), (.int 0), (.int 0), (.int 0), (.int 0)] (.int (0 : Int32)) := Arv.set Ar117 q117 S117 M117 H117 G117 (own_fitC (own_up g114_1)) W117 3 rfl (Nat.le_of_ble_eq_true rfl)
  have N117 := Fr.snoc X117 N114 ge_b101
  refine own_to ?_ st117
  refine own_to (V := T117.setTop (mkF m 63 #[sR oa, sI 9, sI vp, sI vc, sR b101] [(.int vc), (.int vp), (.int 4), (.ref oa), (.int 4), (.ref b101)])) ?_ fun t k => (by
    refine XS.aload X117.here hx rfl (hb hby own_d1_56) rfl rfl ?_
    refine XS.iconst X117.here hx rfl (hb hby own_d1_58) ?_
    refine XS.aloadN X117.here hx rfl (hb hby own_d1_59) rfl rfl ?_
    refine XS.iconst X117.here hx rfl (hb hby own_d1_60) ?_
    refine XS.iloadN X117.here hx rfl (hb hby own_d1_61) rfl ?_
    refine XS.iloadN X117.here hx rfl (hb hby own_d1_62) rfl ?_
    exact k)
  have F119 := ((F115.keep K114 List.not_mem_nil List.not_mem_nil).wr W117 (Nat.ne_of_lt (Nat.lt_of_lt_of_le hS.lt (Nat.le_of_eq g101.symm))) (Nat.ne_of_lt (Nat.lt_of_lt_of_le hS.lt2 (Nat.le_of_eq g101.symm))))
  obtain ⟨_, _, ⟨T118, L118, k118, n118⟩, -, X118, ⟨Lc118, hQ118, l118, y118, z118⟩, st118⟩ := Jvm.LawKit.callS X117 hx (y := own_mn0) hown (mvT hZ (own_i hw 30 rfl)) (mvT hZ (own_i hw 31 rfl)) (mvT hZ (own_i hw 27 rfl)) (mvT hZ (own_i hw 32 rfl)) (by decide) (backOf (W := 2) (own_rmatP4 l Z a0 hw hst [] oa ua vp vc h117 n0 Xo117 F119 hc) hZ (own_i hw 32 rfl) (own_i hw 27 rfl) (by decide) (by decide)) (g := (mkF m 63 #[sR oa, sI 9, sI vp, sI vc, sR b101] [(.int vc), (.int vp), (.int 4), (.ref oa), (.int 4), (.ref b101)])) rfl (by rw [hml]; rfl) (argsL := [(.ref oa), (.int 4), (.int vp), (.int vc)]) (rest := [(.int 4), (.ref b101)]) (lenOf own_pd2 rfl) rfl (by show 2 * 0 + _ ≤ _; exact Nat.le_of_eq rfl) (hb hby own_d1_63) (fun _ _ => ⟨rfl, e117, (by decide : 1 + 0 ≤ _), (by decide : 9 + 0 ≤ _)⟩)
  dsimp only [own_R, Pt.U, Pt.locs, Pt.cells, Pt.slots] at X118 l118 y118 z118 st118 hQ118
  subst y118 z118
  obtain ⟨oc118, hv118, N118q, K118, g118_0, g118_1⟩ := hQ118
  subst hv118
  obtain ⟨h118, e118⟩ : ∃ z, T118.heap = z := ⟨_, rfl⟩
  rw [e118] at K118
  have Xo118 := Xo117.keep K118 all0
  have KK118 := KK117.trans K118 all0
  have N118 : Fr n0 L118 := by rw [l118]; exact Fr.app N117 N118q
  refine own_to ?_ st118
  have F120 := (V117.keep K118 List.not_mem_nil)
  obtain ⟨cl121, Ar121, q121, S121, M121, H121, G121⟩ := id F120
  obtain ⟨T121, h121, X121, e121, W121, st121⟩ := stC X118 hx hZ e118 Ar121 (j := (4 : Int32)) (inb_of S121 ⟨by decide, by decide⟩) (g := (mkF m 66 #[sR oa, sI 9, sI vp, sI vc, sR b101] [(.int oc118), (.int 4), (.ref b101)])) rfl rfl (hb hby own_d1_66)
  rw [own_narC (own_up g118_1)] at W121
  have Xo121 := Xo118.wr W121 ge_b101
  have KK121 := KK118.wr W121 (Or.inr sz_b101)
  have V121 : Arv Z h121 b101 k101 .char (9 : Int32) [(.int oc102), (.int oc106), (.int oc110), (.int oc114), (.int oc118), (.int 0), (.int 0), (.int 0), (.int 0)] (.int (0 : Int32)) := Arv.set Ar121 q121 S121 M121 H121 G121 (own_fitC (own_up g118_1)) W121 4 rfl (Nat.le_of_ble_eq_true rfl)
  have N121 := Fr.snoc X121 N118 ge_b101
  refine own_to ?_ st121
  refine own_to (V := T121.setTop (mkF m 74 #[sR oa, sI 9, sI vp, sI vc, sR b101] [(.int vc), (.int vp), (.int 5), (.ref oa), (.int 5), (.ref b101)])) ?_ fun t k => (by
    refine XS.aload X121.here hx rfl (hb hby own_d1_67) rfl rfl ?_
    refine XS.iconst X121.here hx rfl (hb hby own_d1_69) ?_
    refine XS.aloadN X121.here hx rfl (hb hby own_d1_70) rfl rfl ?_
    refine XS.iconst X121.here hx rfl (hb hby own_d1_71) ?_
    refine XS.iloadN X121.here hx rfl (hb hby own_d1_72) rfl ?_
    refine XS.iloadN X121.here hx rfl (hb hby own_d1_73) rfl ?_
    exact k)
  have F123 := ((F119.keep K118 List.not_mem_nil List.not_mem_nil).wr W121 (Nat.ne_of_lt (Nat.lt_of_lt_of_le hS.lt (Nat.le_of_eq g101.symm))) (Nat.ne_of_lt (Nat.lt_of_lt_of_le hS.lt2 (Nat.le_of_eq g101.symm))))
  obtain ⟨_, _, ⟨T122, L122, k122, n122⟩, -, X122, ⟨Lc122, hQ122, l122, y122, z122⟩, st122⟩ := Jvm.LawKit.callS X121 hx (y := own_mn0) hown (mvT hZ (own_i hw 30 rfl)) (mvT hZ (own_i hw 31 rfl)) (mvT hZ (own_i hw 27 rfl)) (mvT hZ (own_i hw 32 rfl)) (by decide) (backOf (W := 2) (own_rmatP5 l Z a0 hw hst [] oa ua vp vc h121 n0 Xo121 F123 hc) hZ (own_i hw 32 rfl) (own_i hw 27 rfl) (by decide) (by decide)) (g := (mkF m 74 #[sR oa, sI 9, sI vp, sI vc, sR b101] [(.int vc), (.int vp), (.int 5), (.ref oa), (.int 5), (.ref b101)])) rfl (by rw [hml]; rfl) (argsL := [(.ref oa), (.int 5), (.int vp), (.int vc)]) (rest := [(.int 5), (.ref b101)]) (lenOf own_pd2 rfl) rfl (by show 2 * 0 + _ ≤ _; exact Nat.le_of_eq rfl) (hb hby own_d1_74) (fun _ _ => ⟨rfl, e121, (by decide : 1 + 0 ≤ _), (by decide : 9 + 0 ≤ _)⟩)
  dsimp only [own_R, Pt.U, Pt.locs, Pt.cells, Pt.slots] at X122 l122 y122 z122 st122 hQ122
  subst y122 z122
  obtain ⟨oc122, hv122, N122q, K122, g122_0, g122_1⟩ := hQ122
  subst hv122
  obtain ⟨h122, e122⟩ : ∃ z, T122.heap = z := ⟨_, rfl⟩
  rw [e122] at K122
  have Xo122 := Xo121.keep K122 all0
  have KK122 := KK121.trans K122 all0
  have N122 : Fr n0 L122 := by rw [l122]; exact Fr.app N121 N122q
  refine own_to ?_ st122
  have F124 := (V121.keep K122 List.not_mem_nil)
  obtain ⟨cl125, Ar125, q125, S125, M125, H125, G125⟩ := id F124
  obtain ⟨T125, h125, X125, e125, W125, st125⟩ := stC X122 hx hZ e122 Ar125 (j := (5 : Int32)) (inb_of S125 ⟨by decide, by decide⟩) (g := (mkF m 77 #[sR oa, sI 9, sI vp, sI vc, sR b101] [(.int oc122), (.int 5), (.ref b101)])) rfl rfl (hb hby own_d1_77)
  rw [own_narC (own_up g122_1)] at W125
  have Xo125 := Xo122.wr W125 ge_b101
  have KK125 := KK122.wr W125 (Or.inr sz_b101)
  have V125 : Arv Z h125 b101 k101 .char (9 : Int32) [(.int oc102), (.int oc106), (.int oc110), (.int oc114), (.int oc118), (.int oc122), (.int 0), (.int 0), (.int 0)] (.int (0 : Int32)) := Arv.set Ar125 q125 S125 M125 H125 G125 (own_fitC (own_up g122_1)) W125 5 rfl (Nat.le_of_ble_eq_true rfl)
  have N125 := Fr.snoc X125 N122 ge_b101
  refine own_to ?_ st125
  refine own_to (V := T125.setTop (mkF m 87 #[sR oa, sI 9, sI vp, sI vc, sR b101] [(.int vc), (.int vp), (.int 6), (.ref oa), (.int 6), (.ref b101)])) ?_ fun t k => (by
    refine XS.aload X125.here hx rfl (hb hby own_d1_78) rfl rfl ?_
    refine XS.bipush X125.here hx rfl (hb hby own_d1_80) ?_
    refine XS.aloadN X125.here hx rfl (hb hby own_d1_82) rfl rfl ?_
    refine XS.bipush X125.here hx rfl (hb hby own_d1_83) ?_
    refine XS.iloadN X125.here hx rfl (hb hby own_d1_85) rfl ?_
    refine XS.iloadN X125.here hx rfl (hb hby own_d1_86) rfl ?_
    exact k)
  have F127 := ((F123.keep K122 List.not_mem_nil List.not_mem_nil).wr W125 (Nat.ne_of_lt (Nat.lt_of_lt_of_le hS.lt (Nat.le_of_eq g101.symm))) (Nat.ne_of_lt (Nat.lt_of_lt_of_le hS.lt2 (Nat.le_of_eq g101.symm))))
  obtain ⟨_, _, ⟨T126, L126, k126, n126⟩, -, X126, ⟨Lc126, hQ126, l126, y126, z126⟩, st126⟩ := Jvm.LawKit.callS X125 hx (y := own_mn0) hown (mvT hZ (own_i hw 30 rfl)) (mvT hZ (own_i hw 31 rfl)) (mvT hZ (own_i hw 27 rfl)) (mvT hZ (own_i hw 32 rfl)) (by decide) (backOf (W := 2) (own_rmatP6 l Z a0 hw hst [] oa ua vp vc h125 n0 Xo125 F127 hc) hZ (own_i hw 32 rfl) (own_i hw 27 rfl) (by decide) (by decide)) (g := (mkF m 87 #[sR oa, sI 9, sI vp, sI vc, sR b101] [(.int vc), (.int vp), (.int 6), (.ref oa), (.int 6), (.ref b101)])) rfl (by rw [hml]; rfl) (argsL := [(.ref oa), (.int 6), (.int vp), (.int vc)]) (rest := [(.int 6), (.ref b101)]) (lenOf own_pd2 rfl) rfl (by show 2 * 0 + _ ≤ _; exact Nat.le_of_eq rfl) (hb hby own_d1_87) (fun _ _ => ⟨rfl, e125, (by decide : 1 + 0 ≤ _), (by decide : 9 + 0 ≤ _)⟩)
  dsimp only [own_R, Pt.U, Pt.locs, Pt.cells, Pt.slots] at X126 l126 y126 z126 st126 hQ126
  subst y126 z126
  obtain ⟨oc126, hv126, N126q, K126, g126_0, g126_1⟩ := hQ126
  subst hv126
  obtain ⟨h126, e126⟩ : ∃ z, T126.heap = z := ⟨_, rfl⟩
  rw [e126] at K126
  have Xo126 := Xo125.keep K126 all0
  have KK126 := KK125.trans K126 all0
  have N126 : Fr n0 L126 := by rw [l126]; exact Fr.app N125 N126q
  refine own_to ?_ st126
  have F128 := (V125.keep K126 List.not_mem_nil)
  obtain ⟨cl129, Ar129, q129, S129, M129, H129, G129⟩ := id F128
  obtain ⟨T129, h129, X129, e129, W129, st129⟩ := stC X126 hx hZ e126 Ar129 (j := (6 : Int32)) (inb_of S129 ⟨by decide, by decide⟩) (g := (mkF m 90 #[sR oa, sI 9, sI vp, sI vc, sR b101] [(.int oc126), (.int 6), (.ref b101)])) rfl rfl (hb hby own_d1_90)
  rw [own_narC (own_up g126_1)] at W129
  have Xo129 := Xo126.wr W129 ge_b101
  have KK129 := KK126.wr W129 (Or.inr sz_b101)
  have V129 : Arv Z h129 b101 k101 .char (9 : Int32) [(.int oc102), (.int oc106), (.int oc110), (.int oc114), (.int oc118), (.int oc122), (.int oc126), (.int 0), (.int 0)] (.int (0 : Int32)) := Arv.set Ar129 q129 S129 M129 H129 G129 (own_fitC (own_up g126_1)) W129 6 rfl (Nat.le_of_ble_eq_true rfl)
  have N129 := Fr.snoc X129 N126 ge_b101
  refine own_to ?_ st129
  refine own_to (V := T129.setTop (mkF m 100 #[sR oa, sI 9, sI vp, sI vc, sR b101] [(.int vc), (.int vp), (.int 7), (.ref oa), (.int 7), (.ref b101)])) ?_ fun t k => (by
    refine XS.aload X129.here hx rfl (hb hby own_d1_91) rfl rfl ?_
    refine XS.bipush X129.here hx rfl (hb hby own_d1_93) ?_
    refine XS.aloadN X129.here hx rfl (hb hby own_d1_95) rfl rfl ?_
    refine XS.bipush X129.here hx rfl (hb hby own_d1_96) ?_
    refine XS.iloadN X129.here hx rfl (hb hby own_d1_98) rfl ?_
    refine XS.iloadN X129.here hx rfl (hb hby own_d1_99) rfl ?_
    exact k)
  have F131 := ((F127.keep K126 List.not_mem_nil List.not_mem_nil).wr W129 (Nat.ne_of_lt (Nat.lt_of_lt_of_le hS.lt (Nat.le_of_eq g101.symm))) (Nat.ne_of_lt (Nat.lt_of_lt_of_le hS.lt2 (Nat.le_of_eq g101.symm))))
  obtain ⟨_, _, ⟨T130, L130, k130, n130⟩, -, X130, ⟨Lc130, hQ130, l130, y130, z130⟩, st130⟩ := Jvm.LawKit.callS X129 hx (y := own_mn0) hown (mvT hZ (own_i hw 30 rfl)) (mvT hZ (own_i hw 31 rfl)) (mvT hZ (own_i hw 27 rfl)) (mvT hZ (own_i hw 32 rfl)) (by decide) (backOf (W := 2) (own_rmatP7 l Z a0 hw hst [] oa ua vp vc h129 n0 Xo129 F131 hc) hZ (own_i hw 32 rfl) (own_i hw 27 rfl) (by decide) (by decide)) (g := (mkF m 100 #[sR oa, sI 9, sI vp, sI vc, sR b101] [(.int vc), (.int vp), (.int 7), (.ref oa), (.int 7), (.ref b101)])) rfl (by rw [hml]; rfl) (argsL := [(.ref oa), (.int 7), (.int vp), (.int vc)]) (rest := [(.int 7), (.ref b101)]) (lenOf own_pd2 rfl) rfl (by show 2 * 0 + _ ≤ _; exact Nat.le_of_eq rfl) (hb hby own_d1_100) (fun _ _ => ⟨rfl, e129, (by decide : 1 + 0 ≤ _), (by decide : 9 + 0 ≤ _)⟩)
  dsimp only [own_R, Pt.U, Pt.locs, Pt.cells, Pt.slots] at X130 l130 y130 z130 st130 hQ130
  subst y130 z130
  obtain ⟨oc130, hv130, N130q, K130, g130_0, g130_1⟩ := hQ130
  subst hv130
  obtain ⟨h130, e130⟩ : ∃ z, T130.heap = z := ⟨_, rfl⟩
  rw [e130] at K130
  have Xo130 := Xo129.keep K130 all0
  have KK130 := KK129.trans K130 all0
  have N130 : Fr n0 L130 := by rw [l130]; exact Fr.app N129 N130q
  refine own_to ?_ st130
  have F132 := (V129.keep K130 List.not_mem_nil)
  obtain ⟨cl133, Ar133, q133, S133, M133, H133, G133⟩ := id F132
  obtain ⟨T133, h133, X133, e133, W133, st133⟩ := stC X130 hx hZ e130 Ar133 (j := (7 : Int32)) (inb_of S133 ⟨by decide, by decide⟩) (g := (mkF m 103 #[sR oa, sI 9, sI vp, sI vc, sR b101] [(.int oc130), (.int 7), (.ref b101)])) rfl rfl (hb hby own_d1_103)
  rw [own_narC (own_up g130_1)] at W133
  have Xo133 := Xo130.wr W133 ge_b101
  have KK133 := KK130.wr W133 (Or.inr sz_b101)
  have V133 : Arv Z h133 b101 k101 .char (9 : Int32) [(.int oc102), (.int oc106), (.int oc110), (.int oc114), (.int oc118), (.int oc122), (.int oc126), (.int oc130), (.int 0)] (.int (0 : Int32)) := Arv.set Ar133 q133 S133 M133 H133 G133 (own_fitC (own_up g130_1)) W133 7 rfl (Nat.le_of_ble_eq_true rfl)
  have N133 := Fr.snoc X133 N130 ge_b101
  refine own_to ?_ st133
  refine own_to (V := T133.setTop (mkF m 113 #[sR oa, sI 9, sI vp, sI vc, sR b101] [(.int vc), (.int vp), (.int 8), (.ref oa), (.int 8), (.ref b101)])) ?_ fun t k => (by
    refine XS.aload X133.here hx rfl (hb hby own_d1_104) rfl rfl ?_
    refine XS.bipush X133.here hx rfl (hb hby own_d1_106) ?_
    refine XS.aloadN X133.here hx rfl (hb hby own_d1_108) rfl rfl ?_
    refine XS.bipush X133.here hx rfl (hb hby own_d1_109) ?_
    refine XS.iloadN X133.here hx rfl (hb hby own_d1_111) rfl ?_
    refine XS.iloadN X133.here hx rfl (hb hby own_d1_112) rfl ?_
    exact k)
  have F135 := ((F131.keep K130 List.not_mem_nil List.not_mem_nil).wr W133 (Nat.ne_of_lt (Nat.lt_of_lt_of_le hS.lt (Nat.le_of_eq g101.symm))) (Nat.ne_of_lt (Nat.lt_of_lt_of_le hS.lt2 (Nat.le_of_eq g101.symm))))
  obtain ⟨_, _, ⟨T134, L134, k134, n134⟩, -, X134, ⟨Lc134, hQ134, l134, y134, z134⟩, st134⟩ := Jvm.LawKit.callS X133 hx (y := own_mn0) hown (mvT hZ (own_i hw 30 rfl)) (mvT hZ (own_i hw 31 rfl)) (mvT hZ (own_i hw 27 rfl)) (mvT hZ (own_i hw 32 rfl)) (by decide) (backOf (W := 2) (own_rmatP8 l Z a0 hw hst [] oa ua vp vc h133 n0 Xo133 F135 hc) hZ (own_i hw 32 rfl) (own_i hw 27 rfl) (by decide) (by decide)) (g := (mkF m 113 #[sR oa, sI 9, sI vp, sI vc, sR b101] [(.int vc), (.int vp), (.int 8), (.ref oa), (.int 8), (.ref b101)])) rfl (by rw [hml]; rfl) (argsL := [(.ref oa), (.int 8), (.int vp), (.int vc)]) (rest := [(.int 8), (.ref b101)]) (lenOf own_pd2 rfl) rfl (by show 2 * 0 + _ ≤ _; exact Nat.le_of_eq rfl) (hb hby own_d1_113) (fun _ _ => ⟨rfl, e133, (by decide : 1 + 0 ≤ _), (by decide : 9 + 0 ≤ _)⟩)
  dsimp only [own_R, Pt.U, Pt.locs, Pt.cells, Pt.slots] at X134 l134 y134 z134 st134 hQ134
  subst y134 z134
  obtain ⟨oc134, hv134, N134q, K134, g134_0, g134_1⟩ := hQ134
  subst hv134
  obtain ⟨h134, e134⟩ : ∃ z, T134.heap = z := ⟨_, rfl⟩
  rw [e134] at K134
  have Xo134 := Xo133.keep K134 all0
  have KK134 := KK133.trans K134 all0
  have N134 : Fr n0 L134 := by rw [l134]; exact Fr.app N133 N134q
  refine own_to ?_ st134
  have F136 := (V133.keep K134 List.not_mem_nil)
  obtain ⟨cl137, Ar137, q137, S137, M137, H137, G137⟩ := id F136
  obtain ⟨T137, h137, X137, e137, W137, st137⟩ := stC X134 hx hZ e134 Ar137 (j := (8 : Int32)) (inb_of S137 ⟨by decide, by decide⟩) (g := (mkF m 116 #[sR oa, sI 9, sI vp, sI vc, sR b101] [(.int oc134), (.int 8), (.ref b101)])) rfl rfl (hb hby own_d1_116)
  rw [own_narC (own_up g134_1)] at W137
  have Xo137 := Xo134.wr W137 ge_b101
  have KK137 := KK134.wr W137 (Or.inr sz_b101)
  have V137 : Arv Z h137 b101 k101 .char (9 : Int32) [(.int oc102), (.int oc106), (.int oc110), (.int oc114), (.int oc118), (.int oc122), (.int oc126), (.int oc130), (.int oc134)] (.int (0 : Int32)) := Arv.set Ar137 q137 S137 M137 H137 G137 (own_fitC (own_up g134_1)) W137 8 rfl (Nat.le_of_ble_eq_true rfl)
  have N137 := Fr.snoc X137 N134 ge_b101
  refine own_to ?_ st137
  obtain ⟨T138, h138, X138, e138, E138, A138, D138, U138, st138⟩ := newO X137 hx hZ hown (own_i hw 55 rfl) (own_i hw 2 rfl) (own_i hw 1 rfl) e137 (g := (mkF m 117 #[sR oa, sI 9, sI vp, sI vc, sR b101] [])) rfl (hb hby own_d1_117) (by decide) (by decide)
  obtain ⟨b138, g138⟩ : ∃ z, z = h137.size := ⟨_, rfl⟩
  rw [← g138] at A138 D138 U138 st138
  have Xo138 := Xo137.ext E138
  have KK138 := KK137.ext E138
  have ge_b138 := Nat.le_trans (own_ole Xo137) (Nat.le_of_eq g138.symm)
  have sz_b138 := Nat.le_trans KK137.1 (Nat.le_of_eq g138.symm)
  have Fi138_4 : Fld Z h138 b138 "java/lang/String" "value" "[B" .null := D138 (Or.inr (own_i hw 4 rfl)) (ty := (.array .byte)) (by decide)
  have Fi138_5 : Fld Z h138 b138 "java/lang/String" "coder" "B" (.int 0) := D138 (Or.inr (own_i hw 5 rfl)) (ty := .byte) (by decide)
  refine own_to ?_ st138
  refine own_to (V := T138.setTop (mkF m 123 #[sR oa, sI 9, sI vp, sI vc, sR b101] [(.ref b101), (.ref b138), (.ref b138)])) ?_ fun t k => (by
    refine XS.dup X138.here hx rfl (hb hby own_d1_120) rfl rfl ?_
    refine XS.aload X138.here hx rfl (hb hby own_d1_121) rfl rfl ?_
    exact k)
  have F140 := (V137.ext E138)
  obtain ⟨_, _, ⟨T139, L139, k139, n139⟩, -, X139, ⟨Lc139, hQ139, l139, y139, z139⟩, st139⟩ := X138.specialBack hx (y := own_mn4) rfl hown (mvT hZ (own_i hw 56 rfl)) (mvT hZ (own_i hw 57 rfl)) (mvT hZ (own_i hw 58 rfl)) (by decide) (StrChars.Road.backV (W := 1) hZ (own_hws hw) (kI := 4) (own_i hw 2 rfl) (cs := ([oc102, oc106, oc110, oc114, oc118, oc122, oc126, oc130, oc134] : List Int32)) (bs := ([oc102, oc106, oc110, oc114, oc118, oc122, oc126, oc130, oc134] : List Int32).map (fun c => c.toInt8.toInt32)) (n := 9) ge_b138 (own_ole Xo138) A138 Fi138_4 Fi138_5 F140 (O2.ext Xo138.2) P5 rfl rfl (by decide) (by decide) (own_allS g102_1 (own_allS g106_1 (own_allS g110_1 (own_allS g114_1 (own_allS g118_1 (own_allS g122_1 (own_allS g126_1 (own_allS g130_1 (own_allS g134_1 own_all0))))))))) rfl (by decide) (by decide)) (g := (mkF m 123 #[sR oa, sI 9, sI vp, sI vc, sR b101] [(.ref b101), (.ref b138), (.ref b138)])) rfl (by rw [hml]; rfl) (Steps.refl _) (a := b138) (argsL := [(.ref b101)]) (rest := [(.ref b138)]) (lenOf own_pd3 rfl) rfl (by show 2 * 0 + _ ≤ _; exact Nat.le_of_eq rfl) (hb hby own_d1_123) (fun _ _ => ⟨rfl, e138, (by decide : 2 + 1 ≤ _), (by decide : 13 + 9 ≤ _)⟩)
  dsimp only [own_R, Pt.U, Pt.locs, Pt.cells, Pt.slots] at X139 l139 y139 z139 st139 hQ139
  subst y139 z139
  obtain ⟨hv139, N139q, K139, gE139, gC139, u139, kb139, ua139, ub139, uc139, gV139, gK139⟩ := hQ139
  subst hv139
  obtain ⟨h139, e139⟩ : ∃ z, T139.heap = z := ⟨_, rfl⟩
  rw [e139] at K139 gE139 gC139 gV139 gK139
  have Xo139 := Xo138.keep K139 (allS ge_b138 all0)
  have KK139 := KK138.trans K139 (allS (Or.inr sz_b138) all0)
  have N139 : Fr n0 L139 := by rw [l139]; exact Fr.app N137 N139q
  have ge_u139 := Nat.le_trans (own_ole Xo138) ub139
  have sz_u139 := Nat.le_trans KK138.1 ub139
  have Fs139 : own_Str Z h139 b138 u139 ([oc102, oc106, oc110, oc114, oc118, oc122, oc126, oc130, oc134] : List Int32) := own_mkStr0 gE139 gV139 gC139 gK139 rfl (own_allS g102_1 (own_allS g106_1 (own_allS g110_1 (own_allS g114_1 (own_allS g118_1 (own_allS g122_1 (own_allS g126_1 (own_allS g130_1 (own_allS g134_1 own_all0))))))))) (Nat.le_of_ble_eq_true rfl)
  refine own_to ?_ (fun t k => st139.trans k)
  have Fz141 : own_Str Z h139 b138 u139 ([(own_at (0 : Int32) vp vc (80 : Int32)), (own_at (1 : Int32) vp vc (114 : Int32)), (own_at (2 : Int32) vp vc (111 : Int32)), (own_at (3 : Int32) vp vc (100 : Int32)), (own_at (4 : Int32) vp vc (117 : Int32)), (own_at (5 : Int32) vp vc (99 : Int32)), (own_at (6 : Int32) vp vc (116 : Int32)), (own_at (7 : Int32) vp vc (105 : Int32)), (own_at (8 : Int32) vp vc (111 : Int32))] : List Int32) := by
    rw [← g102_0, ← g106_0, ← g110_0, ← g114_0, ← g118_0, ← g122_0, ← g126_0, ← g130_0, ← g134_0]
    exact Fs139
  exact own_retR X139 hx hret (by decide) rfl hlk (hb hby own_d1_126) (by rw [e139]; exact (⟨b138, u139, rfl, N139, KK139, Fz141⟩)) (by decide) (by decide)
def own_QmkP10 (Z : State) (oa : Addr) (ua : Addr) (vp : Int32) (vc : Int32) (h0 : Heap) (n0 : Nat) (v : Option Value) (h : Heap) (L : List Loc) : Prop := (∃ (oo : Addr) (ou : Addr), v = some (.ref oo) ∧ Fr n0 L ∧ Keep h0 h [] ∧ (own_Str Z h oo ou ([(own_at (0 : Int32) vp vc (80 : Int32)), (own_at (1 : Int32) vp vc (114 : Int32)), (own_at (2 : Int32) vp vc (111 : Int32)), (own_at (3 : Int32) vp vc (100 : Int32)), (own_at (4 : Int32) vp vc (117 : Int32)), (own_at (5 : Int32) vp vc (99 : Int32)), (own_at (6 : Int32) vp vc (116 : Int32)), (own_at (7 : Int32) vp vc (105 : Int32)), (own_at (8 : Int32) vp vc (111 : Int32)), (own_at (9 : Int32) vp vc (110 : Int32))] : List Int32)))
theorem own_ef_mkP10 (m : MethodId) (oa : Addr) (vp : Int32) (vc : Int32)  : entryFrame m #[(.ref oa), (.int 10), (.int vp), (.int vc)] 5 = mkF m 0 #[sR oa, sI 10, sI vp, sI vc, .unset] [] := by first | (simp [entryFrame, mkF, argsToLocals, Value.category]; done) | rfl
set_option maxRecDepth 65536 in
set_option maxHeartbeats 40000000 in
theorem own_rmmkP10 (l : Launch) (Z : State) (a0 : Array Value) (hw : ∀ d ∈ tables_1, d.before a0 Z = true) (hst : own_St Z) (ws : List Jvm.Cond) (oa : Addr) (ua : Addr) (vp : Int32) (vc : Int32) (h0 : Heap) (n0 : Nat) (X00 : Old Z n0 h0) (hS : own_Str Z h0 oa ua ([(80 : Int32), (114 : Int32), (111 : Int32), (100 : Int32), (117 : Int32), (99 : Int32), (116 : Int32), (105 : Int32), (111 : Int32), (110 : Int32)] : List Int32)) (hc : ¬ vc < 0 ∧ ¬ (255 : Int32) < vc) :
    own_MF l own_mn3 method_4_code 5 (Option.some (Jvm.ClassFile.FieldType.object "java/lang/String")) ws (own_R 5 3 24 70) #[(.ref oa), (.int 10), (.int vp), (.int vc)] Z h0 (own_QmkP10 Z oa ua vp vc h0 n0) := by
  refine own_body (plainFor_of_name own_pn0) (fun m => own_ef_mkP10 m oa vp vc ) ?_
  intro p e s m below meth c s₁ hx hby hret hlk hml hZ hown hnm hh X0 e0
  have N0 := Fr.nil n0
  have KK0 : Keep h0 h0 [] := Keep.refl h0 _
  obtain ⟨⟨G1, O2, P5⟩, ⟨G3, O4, rG3⟩, -⟩ := id hst
  refine own_to (V := s₁.setTop (mkF m 135 #[sR oa, sI 10, sI vp, sI vc, .unset] [(.int 10)])) ?_ fun t k => (by
    refine XS.iloadN X0.here hx rfl (hb hby own_d1_0) rfl ?_
    refine XS.bipush X0.here hx rfl (hb hby own_d1_1) ?_
    refine XS.icmpYes X0.here hx rfl (pc0 := 3) (pc' := 127) rfl (hb hby own_d1_3) rfl (feq ((by decide) : ¬ ((10 : Int32) = (9 : Int32)))).2 (by decide) (by decide) ?_
    refine XS.iloadN X0.here hx rfl (hb hby own_d1_127) rfl ?_
    refine XS.bipush X0.here hx rfl (hb hby own_d1_128) ?_
    refine XS.icmpNo X0.here hx rfl (hb hby own_d1_130) rfl (teq ((by decide) : (10 : Int32) = (10 : Int32))).2 ?_
    refine XS.bipush X0.here hx rfl (hb hby own_d1_133) ?_
    exact k)
  obtain ⟨T101, h101, k101, X101, e101, E101, A101, st101⟩ := newP X0 hx hZ (own_i hw 29 rfl) e0 (g := (mkF m 135 #[sR oa, sI 10, sI vp, sI vc, .unset] [(.int 10)])) rfl (hb hby own_d1_135) rfl (by decide) (cap := 10) (by decide) (by decide) (by decide) (by decide)
  obtain ⟨b101, g101⟩ : ∃ z, z = h0.size := ⟨_, rfl⟩
  rw [← g101] at A101 st101
  have Xo101 := X00.ext E101
  have KK101 := KK0.ext E101
  have ge_b101 := Nat.le_trans (own_ole X00) (Nat.le_of_eq g101.symm)
  have sz_b101 := Nat.le_trans KK0.1 (Nat.le_of_eq g101.symm)
  have V101 : Arv Z h101 b101 k101 .char (10 : Int32) [(.int 0), (.int 0), (.int 0), (.int 0), (.int 0), (.int 0), (.int 0), (.int 0), (.int 0), (.int 0)] (.int (0 : Int32)) := (Arv.new A101 (by decide)).pad (pad_rep [] (.int (0 : Int32)) 10)
  refine own_to ?_ st101
  refine own_to (V := T101.setTop (mkF m 146 #[sR oa, sI 10, sI vp, sI vc, sR b101] [(.int vc), (.int vp), (.int 0), (.ref oa), (.int 0), (.ref b101)])) ?_ fun t k => (by
    refine XS.astore X101.here hx rfl (hb hby own_d1_137) rfl rfl (l' := #[sR oa, sI 10, sI vp, sI vc, sR b101]) rfl ?_
    refine XS.aload X101.here hx rfl (hb hby own_d1_139) rfl rfl ?_
    refine XS.iconst X101.here hx rfl (hb hby own_d1_141) ?_
    refine XS.aloadN X101.here hx rfl (hb hby own_d1_142) rfl rfl ?_
    refine XS.iconst X101.here hx rfl (hb hby own_d1_143) ?_
    refine XS.iloadN X101.here hx rfl (hb hby own_d1_144) rfl ?_
    refine XS.iloadN X101.here hx rfl (hb hby own_d1_145) rfl ?_
    exact k)
  have F103 := (hS.ext E101)
  obtain ⟨_, _, ⟨T102, L102, k102, n102⟩, -, X102, ⟨Lc102, hQ102, l102, y102, z102⟩, st102⟩ := Jvm.LawKit.callS X101 hx (y := own_mn0) hown (mvT hZ (own_i hw 30 rfl)) (mvT hZ (own_i hw 31 rfl)) (mvT hZ (own_i hw 27 rfl)) (mvT hZ (own_i hw 32 rfl)) (by decide) (backOf (W := 2) (own_rmatP0 l Z a0 hw hst [] oa ua vp vc h101 n0 Xo101 F103 hc) hZ (own_i hw 32 rfl) (own_i hw 27 rfl) (by decide) (by decide)) (g := (mkF m 146 #[sR oa, sI 10, sI vp, sI vc, sR b101] [(.int vc), (.int vp), (.int 0), (.ref oa), (.int 0), (.ref b101)])) rfl (by rw [hml]; rfl) (argsL := [(.ref oa), (.int 0), (.int vp), (.int vc)]) (rest := [(.int 0), (.ref b101)]) (lenOf own_pd2 rfl) rfl (by show 2 * 0 + _ ≤ _; exact Nat.le_of_eq rfl) (hb hby own_d1_146) (fun _ _ => ⟨rfl, e101, (by decide : 1 + 0 ≤ _), (by decide : 10 + 0 ≤ _)⟩)
  dsimp only [own_R, Pt.U, Pt.locs, Pt.cells, Pt.slots] at X102 l102 y102 z102 st102 hQ102
  subst y102 z102
  obtain ⟨oc102, hv102, N102q, K102, g102_0, g102_1⟩ := hQ102
  subst hv102
  obtain ⟨h102, e102⟩ : ∃ z, T102.heap = z := ⟨_, rfl⟩
  rw [e102] at K102
  have Xo102 := Xo101.keep K102 all0
  have KK102 := KK101.trans K102 all0
  have N102 : Fr n0 L102 := by rw [l102]; exact Fr.app N0 N102q
  refine own_to ?_ st102
  have F104 := (V101.keep K102 List.not_mem_nil)
  obtain ⟨cl105, Ar105, q105, S105, M105, H105, G105⟩ := id F104
  obtain ⟨T105, h105, X105, e105, W105, st105⟩ := stC X102 hx hZ e102 Ar105 (j := (0 : Int32)) (inb_of S105 ⟨by decide, by decide⟩) (g := (mkF m 149 #[sR oa, sI 10, sI vp, sI vc, sR b101] [(.int oc102), (.int 0), (.ref b101)])) rfl rfl (hb hby own_d1_149)
  rw [own_narC (own_up g102_1)] at W105
  have Xo105 := Xo102.wr W105 ge_b101
  have KK105 := KK102.wr W105 (Or.inr sz_b101)
  have V105 : Arv Z h105 b101 k101 .char (10 : Int32) [(.int oc102), (.int 0), (.int 0), (.int 0), (.int 0), (.int 0), (.int 0), (.int 0), (.int 0), (.int 0)] (.int (0 : Int32)) := Arv.set Ar105 q105 S105 M105 H105 G105 (own_fitC (own_up g102_1)) W105 0 rfl (Nat.le_of_ble_eq_true rfl)
  have N105 := Fr.snoc X105 N102 ge_b101
  refine own_to ?_ st105
  refine own_to (V := T105.setTop (mkF m 157 #[sR oa, sI 10, sI vp, sI vc, sR b101] [(.int vc), (.int vp), (.int 1), (.ref oa), (.int 1), (.ref b101)])) ?_ fun t k => (by
    refine XS.aload X105.here hx rfl (hb hby own_d1_150) rfl rfl ?_
    refine XS.iconst X105.here hx rfl (hb hby own_d1_152) ?_
    refine XS.aloadN X105.here hx rfl (hb hby own_d1_153) rfl rfl ?_
    refine XS.iconst X105.here hx rfl (hb hby own_d1_154) ?_
    refine XS.iloadN X105.here hx rfl (hb hby own_d1_155) rfl ?_
    refine XS.iloadN X105.here hx rfl (hb hby own_d1_156) rfl ?_
    exact k)
  have F107 := ((F103.keep K102 List.not_mem_nil List.not_mem_nil).wr W105 (Nat.ne_of_lt (Nat.lt_of_lt_of_le hS.lt (Nat.le_of_eq g101.symm))) (Nat.ne_of_lt (Nat.lt_of_lt_of_le hS.lt2 (Nat.le_of_eq g101.symm))))
  obtain ⟨_, _, ⟨T106, L106, k106, n106⟩, -, X106, ⟨Lc106, hQ106, l106, y106, z106⟩, st106⟩ := Jvm.LawKit.callS X105 hx (y := own_mn0) hown (mvT hZ (own_i hw 30 rfl)) (mvT hZ (own_i hw 31 rfl)) (mvT hZ (own_i hw 27 rfl)) (mvT hZ (own_i hw 32 rfl)) (by decide) (backOf (W := 2) (own_rmatP1 l Z a0 hw hst [] oa ua vp vc h105 n0 Xo105 F107 hc) hZ (own_i hw 32 rfl) (own_i hw 27 rfl) (by decide) (by decide)) (g := (mkF m 157 #[sR oa, sI 10, sI vp, sI vc, sR b101] [(.int vc), (.int vp), (.int 1), (.ref oa), (.int 1), (.ref b101)])) rfl (by rw [hml]; rfl) (argsL := [(.ref oa), (.int 1), (.int vp), (.int vc)]) (rest := [(.int 1), (.ref b101)]) (lenOf own_pd2 rfl) rfl (by show 2 * 0 + _ ≤ _; exact Nat.le_of_eq rfl) (hb hby own_d1_157) (fun _ _ => ⟨rfl, e105, (by decide : 1 + 0 ≤ _), (by decide : 10 + 0 ≤ _)⟩)
  dsimp only [own_R, Pt.U, Pt.locs, Pt.cells, Pt.slots] at X106 l106 y106 z106 st106 hQ106
  subst y106 z106
  obtain ⟨oc106, hv106, N106q, K106, g106_0, g106_1⟩ := hQ106
  subst hv106
  obtain ⟨h106, e106⟩ : ∃ z, T106.heap = z := ⟨_, rfl⟩
  rw [e106] at K106
  have Xo106 := Xo105.keep K106 all0
  have KK106 := KK105.trans K106 all0
  have N106 : Fr n0 L106 := by rw [l106]; exact Fr.app N105 N106q
  refine own_to ?_ st106
  have F108 := (V105.keep K106 List.not_mem_nil)
  obtain ⟨cl109, Ar109, q109, S109, M109, H109, G109⟩ := id F108
  obtain ⟨T109, h109, X109, e109, W109, st109⟩ := stC X106 hx hZ e106 Ar109 (j := (1 : Int32)) (inb_of S109 ⟨by decide, by decide⟩) (g := (mkF m 160 #[sR oa, sI 10, sI vp, sI vc, sR b101] [(.int oc106), (.int 1), (.ref b101)])) rfl rfl (hb hby own_d1_160)
  rw [own_narC (own_up g106_1)] at W109
  have Xo109 := Xo106.wr W109 ge_b101
  have KK109 := KK106.wr W109 (Or.inr sz_b101)
  have V109 : Arv Z h109 b101 k101 .char (10 : Int32) [(.int oc102), (.int oc106), (.int 0), (.int 0), (.int 0), (.int 0), (.int 0), (.int 0), (.int 0), (.int 0)] (.int (0 : Int32)) := Arv.set Ar109 q109 S109 M109 H109 G109 (own_fitC (own_up g106_1)) W109 1 rfl (Nat.le_of_ble_eq_true rfl)
  have N109 := Fr.snoc X109 N106 ge_b101
  refine own_to ?_ st109
  refine own_to (V := T109.setTop (mkF m 168 #[sR oa, sI 10, sI vp, sI vc, sR b101] [(.int vc), (.int vp), (.int 2), (.ref oa), (.int 2), (.ref b101)])) ?_ fun t k => (by
    refine XS.aload X109.here hx rfl (hb hby own_d1_161) rfl rfl ?_
    refine XS.iconst X109.here hx rfl (hb hby own_d1_163) ?_
    refine XS.aloadN X109.here hx rfl (hb hby own_d1_164) rfl rfl ?_
    refine XS.iconst X109.here hx rfl (hb hby own_d1_165) ?_
    refine XS.iloadN X109.here hx rfl (hb hby own_d1_166) rfl ?_
    refine XS.iloadN X109.here hx rfl (hb hby own_d1_167) rfl ?_
    exact k)
  have F111 := ((F107.keep K106 List.not_mem_nil List.not_mem_nil).wr W109 (Nat.ne_of_lt (Nat.lt_of_lt_of_le hS.lt (Nat.le_of_eq g101.symm))) (Nat.ne_of_lt (Nat.lt_of_lt_of_le hS.lt2 (Nat.le_of_eq g101.symm))))
  obtain ⟨_, _, ⟨T110, L110, k110, n110⟩, -, X110, ⟨Lc110, hQ110, l110, y110, z110⟩, st110⟩ := Jvm.LawKit.callS X109 hx (y := own_mn0) hown (mvT hZ (own_i hw 30 rfl)) (mvT hZ (own_i hw 31 rfl)) (mvT hZ (own_i hw 27 rfl)) (mvT hZ (own_i hw 32 rfl)) (by decide) (backOf (W := 2) (own_rmatP2 l Z a0 hw hst [] oa ua vp vc h109 n0 Xo109 F111 hc) hZ (own_i hw 32 rfl) (own_i hw 27 rfl) (by decide) (by decide)) (g := (mkF m 168 #[sR oa, sI 10, sI vp, sI vc, sR b101] [(.int vc), (.int vp), (.int 2), (.ref oa), (.int 2), (.ref b101)])) rfl (by rw [hml]; rfl) (argsL := [(.ref oa), (.int 2), (.int vp), (.int vc)]) (rest := [(.int 2), (.ref b101)]) (lenOf own_pd2 rfl) rfl (by show 2 * 0 + _ ≤ _; exact Nat.le_of_eq rfl) (hb hby own_d1_168) (fun _ _ => ⟨rfl, e109, (by decide : 1 + 0 ≤ _), (by decide : 10 + 0 ≤ _)⟩)
  dsimp only [own_R, Pt.U, Pt.locs, Pt.cells, Pt.slots] at X110 l110 y110 z110 st110 hQ110
  subst y110 z110
  obtain ⟨oc110, hv110, N110q, K110, g110_0, g110_1⟩ := hQ110
  subst hv110
  obtain ⟨h110, e110⟩ : ∃ z, T110.heap = z := ⟨_, rfl⟩
  rw [e110] at K110
  have Xo110 := Xo109.keep K110 all0
  have KK110 := KK109.trans K110 all0
  have N110 : Fr n0 L110 := by rw [l110]; exact Fr.app N109 N110q
  refine own_to ?_ st110
  have F112 := (V109.keep K110 List.not_mem_nil)
  obtain ⟨cl113, Ar113, q113, S113, M113, H113, G113⟩ := id F112
  obtain ⟨T113, h113, X113, e113, W113, st113⟩ := stC X110 hx hZ e110 Ar113 (j := (2 : Int32)) (inb_of S113 ⟨by decide, by decide⟩) (g := (mkF m 171 #[sR oa, sI 10, sI vp, sI vc, sR b101] [(.int oc110), (.int 2), (.ref b101)])) rfl rfl (hb hby own_d1_171)
  rw [own_narC (own_up g110_1)] at W113
  have Xo113 := Xo110.wr W113 ge_b101
  have KK113 := KK110.wr W113 (Or.inr sz_b101)
  have V113 : Arv Z h113 b101 k101 .char (10 : Int32) [(.int oc102), (.int oc106), (.int oc110), (.int 0), (.int 0), (.int 0), (.int 0), (.int 0), (.int 0), (.int 0)] (.int (0 : Int32)) := Arv.set Ar113 q113 S113 M113 H113 G113 (own_fitC (own_up g110_1)) W113 2 rfl (Nat.le_of_ble_eq_true rfl)
  have N113 := Fr.snoc X113 N110 ge_b101
  refine own_to ?_ st113
  refine own_to (V := T113.setTop (mkF m 179 #[sR oa, sI 10, sI vp, sI vc, sR b101] [(.int vc), (.int vp), (.int 3), (.ref oa), (.int 3), (.ref b101)])) ?_ fun t k => (by
    refine XS.aload X113.here hx rfl (hb hby own_d1_172) rfl rfl ?_
    refine XS.iconst X113.here hx rfl (hb hby own_d1_174) ?_
    refine XS.aloadN X113.here hx rfl (hb hby own_d1_175) rfl rfl ?_
    refine XS.iconst X113.here hx rfl (hb hby own_d1_176) ?_
    refine XS.iloadN X113.here hx rfl (hb hby own_d1_177) rfl ?_
    refine XS.iloadN X113.here hx rfl (hb hby own_d1_178) rfl ?_
    exact k)
  have F115 := ((F111.keep K110 List.not_mem_nil List.not_mem_nil).wr W113 (Nat.ne_of_lt (Nat.lt_of_lt_of_le hS.lt (Nat.le_of_eq g101.symm))) (Nat.ne_of_lt (Nat.lt_of_lt_of_le hS.lt2 (Nat.le_of_eq g101.symm))))
  obtain ⟨_, _, ⟨T114, L114, k114, n114⟩, -, X114, ⟨Lc114, hQ114, l114, y114, z114⟩, st114⟩ := Jvm.LawKit.callS X113 hx (y := own_mn0) hown (mvT hZ (own_i hw 30 rfl)) (mvT hZ (own_i hw 31 rfl)) (mvT hZ (own_i hw 27 rfl)) (mvT hZ (own_i hw 32 rfl)) (by decide) (backOf (W := 2) (own_rmatP3 l Z a0 hw hst [] oa ua vp vc h113 n0 Xo113 F115 hc) hZ (own_i hw 32 rfl) (own_i hw 27 rfl) (by decide) (by decide)) (g := (mkF m 179 #[sR oa, sI 10, sI vp, sI vc, sR b101] [(.int vc), (.int vp), (.int 3), (.ref oa), (.int 3), (.ref b101)])) rfl (by rw [hml]; rfl) (argsL := [(.ref oa), (.int 3), (.int vp), (.int vc)]) (rest := [(.int 3), (.ref b101)]) (lenOf own_pd2 rfl) rfl (by show 2 * 0 + _ ≤ _; exact Nat.le_of_eq rfl) (hb hby own_d1_179) (fun _ _ => ⟨rfl, e113, (by decide : 1 + 0 ≤ _), (by decide : 10 + 0 ≤ _)⟩)
  dsimp only [own_R, Pt.U, Pt.locs, Pt.cells, Pt.slots] at X114 l114 y114 z114 st114 hQ114
  subst y114 z114
  obtain ⟨oc114, hv114, N114q, K114, g114_0, g114_1⟩ := hQ114
  subst hv114
  obtain ⟨h114, e114⟩ : ∃ z, T114.heap = z := ⟨_, rfl⟩
  rw [e114] at K114
  have Xo114 := Xo113.keep K114 all0
  have KK114 := KK113.trans K114 all0
  have N114 : Fr n0 L114 := by rw [l114]; exact Fr.app N113 N114q
  refine own_to ?_ st114
  have F116 := (V113.keep K114 List.not_mem_nil)
  obtain ⟨cl117, Ar117, q117, S117, M117, H117, G117⟩ := id F116
  obtain ⟨T117, h117, X117, e117, W117, st117⟩ := stC X114 hx hZ e114 Ar117 (j := (3 : Int32)) (inb_of S117 ⟨by decide, by decide⟩) (g := (mkF m 182 #[sR oa, sI 10, sI vp, sI vc, sR b101] [(.int oc114), (.int 3), (.ref b101)])) rfl rfl (hb hby own_d1_182)
  rw [own_narC (own_up g114_1)] at W117
  have Xo117 := Xo114.wr W117 ge_b101
  have KK117 := KK114.wr W117 (Or.inr sz_b101)
  have V117 : Arv Z h117 b101 k101 .char (10 : Int32) [(.int oc102), (.int oc106), (.int oc110), (.int oc114), (.int 0), (.int 0), (.int 0), (.int 0), (.int 0), (.int 0)] (.int (0 : Int32)) := Arv.set Ar117 q117 S117 M117 H117 G117 (own_fitC (own_up g114_1)) W117 3 rfl (Nat.le_of_ble_eq_true rfl)
  have N117 := Fr.snoc X117 N114 ge_b101
  refine own_to ?_ st117
  refine own_to (V := T117.setTop (mkF m 190 #[sR oa, sI 10, sI vp, sI vc, sR b101] [(.int vc), (.int vp), (.int 4), (.ref oa), (.int 4), (.ref b101)])) ?_ fun t k => (by
    refine XS.aload X117.here hx rfl (hb hby own_d1_183) rfl rfl ?_
    refine XS.iconst X117.here hx rfl (hb hby own_d1_185) ?_
    refine XS.aloadN X117.here hx rfl (hb hby own_d1_186) rfl rfl ?_
    refine XS.iconst X117.here hx rfl (hb hby own_d1_187) ?_
    refine XS.iloadN X117.here hx rfl (hb hby own_d1_188) rfl ?_
    refine XS.iloadN X117.here hx rfl (hb hby own_d1_189) rfl ?_
    exact k)
  have F119 := ((F115.keep K114 List.not_mem_nil List.not_mem_nil).wr W117 (Nat.ne_of_lt (Nat.lt_of_lt_of_le hS.lt (Nat.le_of_eq g101.symm))) (Nat.ne_of_lt (Nat.lt_of_lt_of_le hS.lt2 (Nat.le_of_eq g101.symm))))
  obtain ⟨_, _, ⟨T118, L118, k118, n118⟩, -, X118, ⟨Lc118, hQ118, l118, y118, z118⟩, st118⟩ := Jvm.LawKit.callS X117 hx (y := own_mn0) hown (mvT hZ (own_i hw 30 rfl)) (mvT hZ (own_i hw 31 rfl)) (mvT hZ (own_i hw 27 rfl)) (mvT hZ (own_i hw 32 rfl)) (by decide) (backOf (W := 2) (own_rmatP4 l Z a0 hw hst [] oa ua vp vc h117 n0 Xo117 F119 hc) hZ (own_i hw 32 rfl) (own_i hw 27 rfl) (by decide) (by decide)) (g := (mkF m 190 #[sR oa, sI 10, sI vp, sI vc, sR b101] [(.int vc), (.int vp), (.int 4), (.ref oa), (.int 4), (.ref b101)])) rfl (by rw [hml]; rfl) (argsL := [(.ref oa), (.int 4), (.int vp), (.int vc)]) (rest := [(.int 4), (.ref b101)]) (lenOf own_pd2 rfl) rfl (by show 2 * 0 + _ ≤ _; exact Nat.le_of_eq rfl) (hb hby own_d1_190) (fun _ _ => ⟨rfl, e117, (by decide : 1 + 0 ≤ _), (by decide : 10 + 0 ≤ _)⟩)
  dsimp only [own_R, Pt.U, Pt.locs, Pt.cells, Pt.slots] at X118 l118 y118 z118 st118 hQ118
  subst y118 z118
  obtain ⟨oc118, hv118, N118q, K118, g118_0, g118_1⟩ := hQ118
  subst hv118
  obtain ⟨h118, e118⟩ : ∃ z, T118.heap = z := ⟨_, rfl⟩
  rw [e118] at K118
  have Xo118 := Xo117.keep K118 all0
  have KK118 := KK117.trans K118 all0
  have N118 : Fr n0 L118 := by rw [l118]; exact Fr.app N117 N118q
  refine own_to ?_ st118
  have F120 := (V117.keep K118 List.not_mem_nil)
  obtain ⟨cl121, Ar121, q121, S121, M121, H121, G121⟩ := id F120
  obtain ⟨T121, h121, X121, e121, W121, st121⟩ := stC X118 hx hZ e118 Ar121 (j := (4 : Int32)) (inb_of S121 ⟨by decide, by decide⟩) (g := (mkF m 193 #[sR oa, sI 10, sI vp, sI vc, sR b101] [(.int oc118), (.int 4), (.ref b101)])) rfl rfl (hb hby own_d1_193)
  rw [own_narC (own_up g118_1)] at W121
  have Xo121 := Xo118.wr W121 ge_b101
  have KK121 := KK118.wr W121 (Or.inr sz_b101)
  have V121 : Arv Z h121 b101 k101 .char (10 : Int32) [(.int oc102), (.int oc106), (.int oc110), (.int oc114), (.int oc118), (.int 0), (.int 0), (.int 0), (.int 0), (.int 0)] (.int (0 : Int32)) := Arv.set Ar121 q121 S121 M121 H121 G121 (own_fitC (own_up g118_1)) W121 4 rfl (Nat.le_of_ble_eq_true rfl)
  have N121 := Fr.snoc X121 N118 ge_b101
  refine own_to ?_ st121
  refine own_to (V := T121.setTop (mkF m 201 #[sR oa, sI 10, sI vp, sI vc, sR b101] [(.int vc), (.int vp), (.int 5), (.ref oa), (.int 5), (.ref b101)])) ?_ fun t k => (by
    refine XS.aload X121.here hx rfl (hb hby own_d1_194) rfl rfl ?_
    refine XS.iconst X121.here hx rfl (hb hby own_d1_196) ?_
    refine XS.aloadN X121.here hx rfl (hb hby own_d1_197) rfl rfl ?_
    refine XS.iconst X121.here hx rfl (hb hby own_d1_198) ?_
    refine XS.iloadN X121.here hx rfl (hb hby own_d1_199) rfl ?_
    refine XS.iloadN X121.here hx rfl (hb hby own_d1_200) rfl ?_
    exact k)
  have F123 := ((F119.keep K118 List.not_mem_nil List.not_mem_nil).wr W121 (Nat.ne_of_lt (Nat.lt_of_lt_of_le hS.lt (Nat.le_of_eq g101.symm))) (Nat.ne_of_lt (Nat.lt_of_lt_of_le hS.lt2 (Nat.le_of_eq g101.symm))))
  obtain ⟨_, _, ⟨T122, L122, k122, n122⟩, -, X122, ⟨Lc122, hQ122, l122, y122, z122⟩, st122⟩ := Jvm.LawKit.callS X121 hx (y := own_mn0) hown (mvT hZ (own_i hw 30 rfl)) (mvT hZ (own_i hw 31 rfl)) (mvT hZ (own_i hw 27 rfl)) (mvT hZ (own_i hw 32 rfl)) (by decide) (backOf (W := 2) (own_rmatP5 l Z a0 hw hst [] oa ua vp vc h121 n0 Xo121 F123 hc) hZ (own_i hw 32 rfl) (own_i hw 27 rfl) (by decide) (by decide)) (g := (mkF m 201 #[sR oa, sI 10, sI vp, sI vc, sR b101] [(.int vc), (.int vp), (.int 5), (.ref oa), (.int 5), (.ref b101)])) rfl (by rw [hml]; rfl) (argsL := [(.ref oa), (.int 5), (.int vp), (.int vc)]) (rest := [(.int 5), (.ref b101)]) (lenOf own_pd2 rfl) rfl (by show 2 * 0 + _ ≤ _; exact Nat.le_of_eq rfl) (hb hby own_d1_201) (fun _ _ => ⟨rfl, e121, (by decide : 1 + 0 ≤ _), (by decide : 10 + 0 ≤ _)⟩)
  dsimp only [own_R, Pt.U, Pt.locs, Pt.cells, Pt.slots] at X122 l122 y122 z122 st122 hQ122
  subst y122 z122
  obtain ⟨oc122, hv122, N122q, K122, g122_0, g122_1⟩ := hQ122
  subst hv122
  obtain ⟨h122, e122⟩ : ∃ z, T122.heap = z := ⟨_, rfl⟩
  rw [e122] at K122
  have Xo122 := Xo121.keep K122 all0
  have KK122 := KK121.trans K122 all0
  have N122 : Fr n0 L122 := by rw [l122]; exact Fr.app N121 N122q
  refine own_to ?_ st122
  have F124 := (V121.keep K122 List.not_mem_nil)
  obtain ⟨cl125, Ar125, q125, S125, M125, H125, G125⟩ := id F124
  obtain ⟨T125, h125, X125, e125, W125, st125⟩ := stC X122 hx hZ e122 Ar125 (j := (5 : Int32)) (inb_of S125 ⟨by decide, by decide⟩) (g := (mkF m 204 #[sR oa, sI 10, sI vp, sI vc, sR b101] [(.int oc122), (.int 5), (.ref b101)])) rfl rfl (hb hby own_d1_204)
  rw [own_narC (own_up g122_1)] at W125
  have Xo125 := Xo122.wr W125 ge_b101
  have KK125 := KK122.wr W125 (Or.inr sz_b101)
  have V125 : Arv Z h125 b101 k101 .char (10 : Int32) [(.int oc102), (.int oc106), (.int oc110), (.int oc114), (.int oc118), (.int oc122), (.int 0), (.int 0), (.int 0), (.int 0)] (.int (0 : Int32)) := Arv.set Ar125 q125 S125 M125 H125 G125 (own_fitC (own_up g122_1)) W125 5 rfl (Nat.le_of_ble_eq_true rfl)
  have N125 := Fr.snoc X125 N122 ge_b101
  refine own_to ?_ st125
  refine own_to (V := T125.setTop (mkF m 214 #[sR oa, sI 10, sI vp, sI vc, sR b101] [(.int vc), (.int vp), (.int 6), (.ref oa), (.int 6), (.ref b101)])) ?_ fun t k => (by
    refine XS.aload X125.here hx rfl (hb hby own_d1_205) rfl rfl ?_
    refine XS.bipush X125.here hx rfl (hb hby own_d1_207) ?_
    refine XS.aloadN X125.here hx rfl (hb hby own_d1_209) rfl rfl ?_
    refine XS.bipush X125.here hx rfl (hb hby own_d1_210) ?_
    refine XS.iloadN X125.here hx rfl (hb hby own_d1_212) rfl ?_
    refine XS.iloadN X125.here hx rfl (hb hby own_d1_213) rfl ?_
    exact k)
  have F127 := ((F123.keep K122 List.not_mem_nil List.not_mem_nil).wr W125 (Nat.ne_of_lt (Nat.lt_of_lt_of_le hS.lt (Nat.le_of_eq g101.symm))) (Nat.ne_of_lt (Nat.lt_of_lt_of_le hS.lt2 (Nat.le_of_eq g101.symm))))
  obtain ⟨_, _, ⟨T126, L126, k126, n126⟩, -, X126, ⟨Lc126, hQ126, l126, y126, z126⟩, st126⟩ := Jvm.LawKit.callS X125 hx (y := own_mn0) hown (mvT hZ (own_i hw 30 rfl)) (mvT hZ (own_i hw 31 rfl)) (mvT hZ (own_i hw 27 rfl)) (mvT hZ (own_i hw 32 rfl)) (by decide) (backOf (W := 2) (own_rmatP6 l Z a0 hw hst [] oa ua vp vc h125 n0 Xo125 F127 hc) hZ (own_i hw 32 rfl) (own_i hw 27 rfl) (by decide) (by decide)) (g := (mkF m 214 #[sR oa, sI 10, sI vp, sI vc, sR b101] [(.int vc), (.int vp), (.int 6), (.ref oa), (.int 6), (.ref b101)])) rfl (by rw [hml]; rfl) (argsL := [(.ref oa), (.int 6), (.int vp), (.int vc)]) (rest := [(.int 6), (.ref b101)]) (lenOf own_pd2 rfl) rfl (by show 2 * 0 + _ ≤ _; exact Nat.le_of_eq rfl) (hb hby own_d1_214) (fun _ _ => ⟨rfl, e125, (by decide : 1 + 0 ≤ _), (by decide : 10 + 0 ≤ _)⟩)
  dsimp only [own_R, Pt.U, Pt.locs, Pt.cells, Pt.slots] at X126 l126 y126 z126 st126 hQ126
  subst y126 z126
  obtain ⟨oc126, hv126, N126q, K126, g126_0, g126_1⟩ := hQ126
  subst hv126
  obtain ⟨h126, e126⟩ : ∃ z, T126.heap = z := ⟨_, rfl⟩
  rw [e126] at K126
  have Xo126 := Xo125.keep K126 all0
  have KK126 := KK125.trans K126 all0
  have N126 : Fr n0 L126 := by rw [l126]; exact Fr.app N125 N126q
  refine own_to ?_ st126
  have F128 := (V125.keep K126 List.not_mem_nil)
  obtain ⟨cl129, Ar129, q129, S129, M129, H129, G129⟩ := id F128
  obtain ⟨T129, h129, X129, e129, W129, st129⟩ := stC X126 hx hZ e126 Ar129 (j := (6 : Int32)) (inb_of S129 ⟨by decide, by decide⟩) (g := (mkF m 217 #[sR oa, sI 10, sI vp, sI vc, sR b101] [(.int oc126), (.int 6), (.ref b101)])) rfl rfl (hb hby own_d1_217)
  rw [own_narC (own_up g126_1)] at W129
  have Xo129 := Xo126.wr W129 ge_b101
  have KK129 := KK126.wr W129 (Or.inr sz_b101)
  have V129 : Arv Z h129 b101 k101 .char (10 : Int32) [(.int oc102), (.int oc106), (.int oc110), (.int oc114), (.int oc118), (.int oc122), (.int oc126), (.int 0), (.int 0), (.int 0)] (.int (0 : Int32)) := Arv.set Ar129 q129 S129 M129 H129 G129 (own_fitC (own_up g126_1)) W129 6 rfl (Nat.le_of_ble_eq_true rfl)
  have N129 := Fr.snoc X129 N126 ge_b101
  refine own_to ?_ st129
  refine own_to (V := T129.setTop (mkF m 227 #[sR oa, sI 10, sI vp, sI vc, sR b101] [(.int vc), (.int vp), (.int 7), (.ref oa), (.int 7), (.ref b101)])) ?_ fun t k => (by
    refine XS.aload X129.here hx rfl (hb hby own_d1_218) rfl rfl ?_
    refine XS.bipush X129.here hx rfl (hb hby own_d1_220) ?_
    refine XS.aloadN X129.here hx rfl (hb hby own_d1_222) rfl rfl ?_
    refine XS.bipush X129.here hx rfl (hb hby own_d1_223) ?_
    refine XS.iloadN X129.here hx rfl (hb hby own_d1_225) rfl ?_
    refine XS.iloadN X129.here hx rfl (hb hby own_d1_226) rfl ?_
    exact k)
  have F131 := ((F127.keep K126 List.not_mem_nil List.not_mem_nil).wr W129 (Nat.ne_of_lt (Nat.lt_of_lt_of_le hS.lt (Nat.le_of_eq g101.symm))) (Nat.ne_of_lt (Nat.lt_of_lt_of_le hS.lt2 (Nat.le_of_eq g101.symm))))
  obtain ⟨_, _, ⟨T130, L130, k130, n130⟩, -, X130, ⟨Lc130, hQ130, l130, y130, z130⟩, st130⟩ := Jvm.LawKit.callS X129 hx (y := own_mn0) hown (mvT hZ (own_i hw 30 rfl)) (mvT hZ (own_i hw 31 rfl)) (mvT hZ (own_i hw 27 rfl)) (mvT hZ (own_i hw 32 rfl)) (by decide) (backOf (W := 2) (own_rmatP7 l Z a0 hw hst [] oa ua vp vc h129 n0 Xo129 F131 hc) hZ (own_i hw 32 rfl) (own_i hw 27 rfl) (by decide) (by decide)) (g := (mkF m 227 #[sR oa, sI 10, sI vp, sI vc, sR b101] [(.int vc), (.int vp), (.int 7), (.ref oa), (.int 7), (.ref b101)])) rfl (by rw [hml]; rfl) (argsL := [(.ref oa), (.int 7), (.int vp), (.int vc)]) (rest := [(.int 7), (.ref b101)]) (lenOf own_pd2 rfl) rfl (by show 2 * 0 + _ ≤ _; exact Nat.le_of_eq rfl) (hb hby own_d1_227) (fun _ _ => ⟨rfl, e129, (by decide : 1 + 0 ≤ _), (by decide : 10 + 0 ≤ _)⟩)
  dsimp only [own_R, Pt.U, Pt.locs, Pt.cells, Pt.slots] at X130 l130 y130 z130 st130 hQ130
  subst y130 z130
  obtain ⟨oc130, hv130, N130q, K130, g130_0, g130_1⟩ := hQ130
  subst hv130
  obtain ⟨h130, e130⟩ : ∃ z, T130.heap = z := ⟨_, rfl⟩
  rw [e130] at K130
  have Xo130 := Xo129.keep K130 all0
  have KK130 := KK129.trans K130 all0
  have N130 : Fr n0 L130 := by rw [l130]; exact Fr.app N129 N130q
  refine own_to ?_ st130
  have F132 := (V129.keep K130 List.not_mem_nil)
  obtain ⟨cl133, Ar133, q133, S133, M133, H133, G133⟩ := id F132
  obtain ⟨T133, h133, X133, e133, W133, st133⟩ := stC X130 hx hZ e130 Ar133 (j := (7 : Int32)) (inb_of S133 ⟨by decide, by decide⟩) (g := (mkF m 230 #[sR oa, sI 10, sI vp, sI vc, sR b101] [(.int oc130), (.int 7), (.ref b101)])) rfl rfl (hb hby own_d1_230)
  rw [own_narC (own_up g130_1)] at W133
  have Xo133 := Xo130.wr W133 ge_b101
  have KK133 := KK130.wr W133 (Or.inr sz_b101)
  have V133 : Arv Z h133 b101 k101 .char (10 : Int32) [(.int oc102), (.int oc106), (.int oc110), (.int oc114), (.int oc118), (.int oc122), (.int oc126), (.int oc130), (.int 0), (.int 0)] (.int (0 : Int32)) := Arv.set Ar133 q133 S133 M133 H133 G133 (own_fitC (own_up g130_1)) W133 7 rfl (Nat.le_of_ble_eq_true rfl)
  have N133 := Fr.snoc X133 N130 ge_b101
  refine own_to ?_ st133
  refine own_to (V := T133.setTop (mkF m 240 #[sR oa, sI 10, sI vp, sI vc, sR b101] [(.int vc), (.int vp), (.int 8), (.ref oa), (.int 8), (.ref b101)])) ?_ fun t k => (by
    refine XS.aload X133.here hx rfl (hb hby own_d1_231) rfl rfl ?_
    refine XS.bipush X133.here hx rfl (hb hby own_d1_233) ?_
    refine XS.aloadN X133.here hx rfl (hb hby own_d1_235) rfl rfl ?_
    refine XS.bipush X133.here hx rfl (hb hby own_d1_236) ?_
    refine XS.iloadN X133.here hx rfl (hb hby own_d1_238) rfl ?_
    refine XS.iloadN X133.here hx rfl (hb hby own_d1_239) rfl ?_
    exact k)
  have F135 := ((F131.keep K130 List.not_mem_nil List.not_mem_nil).wr W133 (Nat.ne_of_lt (Nat.lt_of_lt_of_le hS.lt (Nat.le_of_eq g101.symm))) (Nat.ne_of_lt (Nat.lt_of_lt_of_le hS.lt2 (Nat.le_of_eq g101.symm))))
  obtain ⟨_, _, ⟨T134, L134, k134, n134⟩, -, X134, ⟨Lc134, hQ134, l134, y134, z134⟩, st134⟩ := Jvm.LawKit.callS X133 hx (y := own_mn0) hown (mvT hZ (own_i hw 30 rfl)) (mvT hZ (own_i hw 31 rfl)) (mvT hZ (own_i hw 27 rfl)) (mvT hZ (own_i hw 32 rfl)) (by decide) (backOf (W := 2) (own_rmatP8 l Z a0 hw hst [] oa ua vp vc h133 n0 Xo133 F135 hc) hZ (own_i hw 32 rfl) (own_i hw 27 rfl) (by decide) (by decide)) (g := (mkF m 240 #[sR oa, sI 10, sI vp, sI vc, sR b101] [(.int vc), (.int vp), (.int 8), (.ref oa), (.int 8), (.ref b101)])) rfl (by rw [hml]; rfl) (argsL := [(.ref oa), (.int 8), (.int vp), (.int vc)]) (rest := [(.int 8), (.ref b101)]) (lenOf own_pd2 rfl) rfl (by show 2 * 0 + _ ≤ _; exact Nat.le_of_eq rfl) (hb hby own_d1_240) (fun _ _ => ⟨rfl, e133, (by decide : 1 + 0 ≤ _), (by decide : 10 + 0 ≤ _)⟩)
  dsimp only [own_R, Pt.U, Pt.locs, Pt.cells, Pt.slots] at X134 l134 y134 z134 st134 hQ134
  subst y134 z134
  obtain ⟨oc134, hv134, N134q, K134, g134_0, g134_1⟩ := hQ134
  subst hv134
  obtain ⟨h134, e134⟩ : ∃ z, T134.heap = z := ⟨_, rfl⟩
  rw [e134] at K134
  have Xo134 := Xo133.keep K134 all0
  have KK134 := KK133.trans K134 all0
  have N134 : Fr n0 L134 := by rw [l134]; exact Fr.app N133 N134q
  refine own_to ?_ st134
  have F136 := (V133.keep K134 List.not_mem_nil)
  obtain ⟨cl137, Ar137, q137, S137, M137, H137, G137⟩ := id F136
  obtain ⟨T137, h137, X137, e137, W137, st137⟩ := stC X134 hx hZ e134 Ar137 (j := (8 : Int32)) (inb_of S137 ⟨by decide, by decide⟩) (g := (mkF m 243 #[sR oa, sI 10, sI vp, sI vc, sR b101] [(.int oc134), (.int 8), (.ref b101)])) rfl rfl (hb hby own_d1_243)
  rw [own_narC (own_up g134_1)] at W137
  have Xo137 := Xo134.wr W137 ge_b101
  have KK137 := KK134.wr W137 (Or.inr sz_b101)
  have V137 : Arv Z h137 b101 k101 .char (10 : Int32) [(.int oc102), (.int oc106), (.int oc110), (.int oc114), (.int oc118), (.int oc122), (.int oc126), (.int oc130), (.int oc134), (.int 0)] (.int (0 : Int32)) := Arv.set Ar137 q137 S137 M137 H137 G137 (own_fitC (own_up g134_1)) W137 8 rfl (Nat.le_of_ble_eq_true rfl)
  have N137 := Fr.snoc X137 N134 ge_b101
  refine own_to ?_ st137
  refine own_to (V := T137.setTop (mkF m 253 #[sR oa, sI 10, sI vp, sI vc, sR b101] [(.int vc), (.int vp), (.int 9), (.ref oa), (.int 9), (.ref b101)])) ?_ fun t k => (by
    refine XS.aload X137.here hx rfl (hb hby own_d1_244) rfl rfl ?_
    refine XS.bipush X137.here hx rfl (hb hby own_d1_246) ?_
    refine XS.aloadN X137.here hx rfl (hb hby own_d1_248) rfl rfl ?_
    refine XS.bipush X137.here hx rfl (hb hby own_d1_249) ?_
    refine XS.iloadN X137.here hx rfl (hb hby own_d1_251) rfl ?_
    refine XS.iloadN X137.here hx rfl (hb hby own_d1_252) rfl ?_
    exact k)
  have F139 := ((F135.keep K134 List.not_mem_nil List.not_mem_nil).wr W137 (Nat.ne_of_lt (Nat.lt_of_lt_of_le hS.lt (Nat.le_of_eq g101.symm))) (Nat.ne_of_lt (Nat.lt_of_lt_of_le hS.lt2 (Nat.le_of_eq g101.symm))))
  obtain ⟨_, _, ⟨T138, L138, k138, n138⟩, -, X138, ⟨Lc138, hQ138, l138, y138, z138⟩, st138⟩ := Jvm.LawKit.callS X137 hx (y := own_mn0) hown (mvT hZ (own_i hw 30 rfl)) (mvT hZ (own_i hw 31 rfl)) (mvT hZ (own_i hw 27 rfl)) (mvT hZ (own_i hw 32 rfl)) (by decide) (backOf (W := 2) (own_rmatP9 l Z a0 hw hst [] oa ua vp vc h137 n0 Xo137 F139 hc) hZ (own_i hw 32 rfl) (own_i hw 27 rfl) (by decide) (by decide)) (g := (mkF m 253 #[sR oa, sI 10, sI vp, sI vc, sR b101] [(.int vc), (.int vp), (.int 9), (.ref oa), (.int 9), (.ref b101)])) rfl (by rw [hml]; rfl) (argsL := [(.ref oa), (.int 9), (.int vp), (.int vc)]) (rest := [(.int 9), (.ref b101)]) (lenOf own_pd2 rfl) rfl (by show 2 * 0 + _ ≤ _; exact Nat.le_of_eq rfl) (hb hby own_d1_253) (fun _ _ => ⟨rfl, e137, (by decide : 1 + 0 ≤ _), (by decide : 10 + 0 ≤ _)⟩)
  dsimp only [own_R, Pt.U, Pt.locs, Pt.cells, Pt.slots] at X138 l138 y138 z138 st138 hQ138
  subst y138 z138
  obtain ⟨oc138, hv138, N138q, K138, g138_0, g138_1⟩ := hQ138
  subst hv138
  obtain ⟨h138, e138⟩ : ∃ z, T138.heap = z := ⟨_, rfl⟩
  rw [e138] at K138
  have Xo138 := Xo137.keep K138 all0
  have KK138 := KK137.trans K138 all0
  have N138 : Fr n0 L138 := by rw [l138]; exact Fr.app N137 N138q
  refine own_to ?_ st138
  have F140 := (V137.keep K138 List.not_mem_nil)
  obtain ⟨cl141, Ar141, q141, S141, M141, H141, G141⟩ := id F140
  obtain ⟨T141, h141, X141, e141, W141, st141⟩ := stC X138 hx hZ e138 Ar141 (j := (9 : Int32)) (inb_of S141 ⟨by decide, by decide⟩) (g := (mkF m 256 #[sR oa, sI 10, sI vp, sI vc, sR b101] [(.int oc138), (.int 9), (.ref b101)])) rfl rfl (hb hby own_d1_256)
  rw [own_narC (own_up g138_1)] at W141
  have Xo141 := Xo138.wr W141 ge_b101
  have KK141 := KK138.wr W141 (Or.inr sz_b101)
  have V141 : Arv Z h141 b101 k101 .char (10 : Int32) [(.int oc102), (.int oc106), (.int oc110), (.int oc114), (.int oc118), (.int oc122), (.int oc126), (.int oc130), (.int oc134), (.int oc138)] (.int (0 : Int32)) := Arv.set Ar141 q141 S141 M141 H141 G141 (own_fitC (own_up g138_1)) W141 9 rfl (Nat.le_of_ble_eq_true rfl)
  have N141 := Fr.snoc X141 N138 ge_b101
  refine own_to ?_ st141
  obtain ⟨T142, h142, X142, e142, E142, A142, D142, U142, st142⟩ := newO X141 hx hZ hown (own_i hw 55 rfl) (own_i hw 2 rfl) (own_i hw 1 rfl) e141 (g := (mkF m 257 #[sR oa, sI 10, sI vp, sI vc, sR b101] [])) rfl (hb hby own_d1_257) (by decide) (by decide)
  obtain ⟨b142, g142⟩ : ∃ z, z = h141.size := ⟨_, rfl⟩
  rw [← g142] at A142 D142 U142 st142
  have Xo142 := Xo141.ext E142
  have KK142 := KK141.ext E142
  have ge_b142 := Nat.le_trans (own_ole Xo141) (Nat.le_of_eq g142.symm)
  have sz_b142 := Nat.le_trans KK141.1 (Nat.le_of_eq g142.symm)
  have Fi142_4 : Fld Z h142 b142 "java/lang/String" "value" "[B" .null := D142 (Or.inr (own_i hw 4 rfl)) (ty := (.array .byte)) (by decide)
  have Fi142_5 : Fld Z h142 b142 "java/lang/String" "coder" "B" (.int 0) := D142 (Or.inr (own_i hw 5 rfl)) (ty := .byte) (by decide)
  refine own_to ?_ st142
  refine own_to (V := T142.setTop (mkF m 263 #[sR oa, sI 10, sI vp, sI vc, sR b101] [(.ref b101), (.ref b142), (.ref b142)])) ?_ fun t k => (by
    refine XS.dup X142.here hx rfl (hb hby own_d1_260) rfl rfl ?_
    refine XS.aload X142.here hx rfl (hb hby own_d1_261) rfl rfl ?_
    exact k)
  have F144 := (V141.ext E142)
  obtain ⟨_, _, ⟨T143, L143, k143, n143⟩, -, X143, ⟨Lc143, hQ143, l143, y143, z143⟩, st143⟩ := X142.specialBack hx (y := own_mn4) rfl hown (mvT hZ (own_i hw 56 rfl)) (mvT hZ (own_i hw 57 rfl)) (mvT hZ (own_i hw 58 rfl)) (by decide) (StrChars.Road.backV (W := 1) hZ (own_hws hw) (kI := 4) (own_i hw 2 rfl) (cs := ([oc102, oc106, oc110, oc114, oc118, oc122, oc126, oc130, oc134, oc138] : List Int32)) (bs := ([oc102, oc106, oc110, oc114, oc118, oc122, oc126, oc130, oc134, oc138] : List Int32).map (fun c => c.toInt8.toInt32)) (n := 10) ge_b142 (own_ole Xo142) A142 Fi142_4 Fi142_5 F144 (O2.ext Xo142.2) P5 rfl rfl (by decide) (by decide) (own_allS g102_1 (own_allS g106_1 (own_allS g110_1 (own_allS g114_1 (own_allS g118_1 (own_allS g122_1 (own_allS g126_1 (own_allS g130_1 (own_allS g134_1 (own_allS g138_1 own_all0)))))))))) rfl (by decide) (by decide)) (g := (mkF m 263 #[sR oa, sI 10, sI vp, sI vc, sR b101] [(.ref b101), (.ref b142), (.ref b142)])) rfl (by rw [hml]; rfl) (Steps.refl _) (a := b142) (argsL := [(.ref b101)]) (rest := [(.ref b142)]) (lenOf own_pd3 rfl) rfl (by show 2 * 0 + _ ≤ _; exact Nat.le_of_eq rfl) (hb hby own_d1_263) (fun _ _ => ⟨rfl, e142, (by decide : 2 + 1 ≤ _), (by decide : 14 + 10 ≤ _)⟩)
  dsimp only [own_R, Pt.U, Pt.locs, Pt.cells, Pt.slots] at X143 l143 y143 z143 st143 hQ143
  subst y143 z143
  obtain ⟨hv143, N143q, K143, gE143, gC143, u143, kb143, ua143, ub143, uc143, gV143, gK143⟩ := hQ143
  subst hv143
  obtain ⟨h143, e143⟩ : ∃ z, T143.heap = z := ⟨_, rfl⟩
  rw [e143] at K143 gE143 gC143 gV143 gK143
  have Xo143 := Xo142.keep K143 (allS ge_b142 all0)
  have KK143 := KK142.trans K143 (allS (Or.inr sz_b142) all0)
  have N143 : Fr n0 L143 := by rw [l143]; exact Fr.app N141 N143q
  have ge_u143 := Nat.le_trans (own_ole Xo142) ub143
  have sz_u143 := Nat.le_trans KK142.1 ub143
  have Fs143 : own_Str Z h143 b142 u143 ([oc102, oc106, oc110, oc114, oc118, oc122, oc126, oc130, oc134, oc138] : List Int32) := own_mkStr0 gE143 gV143 gC143 gK143 rfl (own_allS g102_1 (own_allS g106_1 (own_allS g110_1 (own_allS g114_1 (own_allS g118_1 (own_allS g122_1 (own_allS g126_1 (own_allS g130_1 (own_allS g134_1 (own_allS g138_1 own_all0)))))))))) (Nat.le_of_ble_eq_true rfl)
  refine own_to ?_ (fun t k => st143.trans k)
  have Fz145 : own_Str Z h143 b142 u143 ([(own_at (0 : Int32) vp vc (80 : Int32)), (own_at (1 : Int32) vp vc (114 : Int32)), (own_at (2 : Int32) vp vc (111 : Int32)), (own_at (3 : Int32) vp vc (100 : Int32)), (own_at (4 : Int32) vp vc (117 : Int32)), (own_at (5 : Int32) vp vc (99 : Int32)), (own_at (6 : Int32) vp vc (116 : Int32)), (own_at (7 : Int32) vp vc (105 : Int32)), (own_at (8 : Int32) vp vc (111 : Int32)), (own_at (9 : Int32) vp vc (110 : Int32))] : List Int32) := by
    rw [← g102_0, ← g106_0, ← g110_0, ← g114_0, ← g118_0, ← g122_0, ← g126_0, ← g130_0, ← g134_0, ← g138_0]
    exact Fs143
  exact own_retR X143 hx hret (by decide) rfl hlk (hb hby own_d1_266) (by rw [e143]; exact (⟨b142, u143, rfl, N143, KK143, Fz145⟩)) (by decide) (by decide)
def own_QmkP11 (Z : State) (oa : Addr) (ua : Addr) (vp : Int32) (vc : Int32) (h0 : Heap) (n0 : Nat) (v : Option Value) (h : Heap) (L : List Loc) : Prop := (∃ (oo : Addr) (ou : Addr), v = some (.ref oo) ∧ Fr n0 L ∧ Keep h0 h [] ∧ (own_Str Z h oo ou ([(own_at (0 : Int32) vp vc (80 : Int32)), (own_at (1 : Int32) vp vc (114 : Int32)), (own_at (2 : Int32) vp vc (111 : Int32)), (own_at (3 : Int32) vp vc (100 : Int32)), (own_at (4 : Int32) vp vc (117 : Int32)), (own_at (5 : Int32) vp vc (99 : Int32)), (own_at (6 : Int32) vp vc (116 : Int32)), (own_at (7 : Int32) vp vc (105 : Int32)), (own_at (8 : Int32) vp vc (111 : Int32)), (own_at (9 : Int32) vp vc (110 : Int32)), vc] : List Int32)))
theorem own_ef_mkP11 (m : MethodId) (oa : Addr) (vp : Int32) (vc : Int32)  : entryFrame m #[(.ref oa), (.int 11), (.int vp), (.int vc)] 5 = mkF m 0 #[sR oa, sI 11, sI vp, sI vc, .unset] [] := by first | (simp [entryFrame, mkF, argsToLocals, Value.category]; done) | rfl
set_option maxRecDepth 65536 in
set_option maxHeartbeats 40000000 in
theorem own_rmmkP11 (l : Launch) (Z : State) (a0 : Array Value) (hw : ∀ d ∈ tables_1, d.before a0 Z = true) (hst : own_St Z) (ws : List Jvm.Cond) (oa : Addr) (ua : Addr) (vp : Int32) (vc : Int32) (h0 : Heap) (n0 : Nat) (X00 : Old Z n0 h0) (hS : own_Str Z h0 oa ua ([(80 : Int32), (114 : Int32), (111 : Int32), (100 : Int32), (117 : Int32), (99 : Int32), (116 : Int32), (105 : Int32), (111 : Int32), (110 : Int32)] : List Int32)) (hc : ¬ vc < 0 ∧ ¬ (255 : Int32) < vc) :
    own_MF l own_mn3 method_4_code 5 (Option.some (Jvm.ClassFile.FieldType.object "java/lang/String")) ws (own_R 5 3 26 70) #[(.ref oa), (.int 11), (.int vp), (.int vc)] Z h0 (own_QmkP11 Z oa ua vp vc h0 n0) := by
  refine own_body (plainFor_of_name own_pn0) (fun m => own_ef_mkP11 m oa vp vc ) ?_
  intro p e s m below meth c s₁ hx hby hret hlk hml hZ hown hnm hh X0 e0
  have N0 := Fr.nil n0
  have KK0 : Keep h0 h0 [] := Keep.refl h0 _
  obtain ⟨⟨G1, O2, P5⟩, ⟨G3, O4, rG3⟩, -⟩ := id hst
  refine own_to (V := s₁.setTop (mkF m 275 #[sR oa, sI 11, sI vp, sI vc, .unset] [(.int 11)])) ?_ fun t k => (by
    refine XS.iloadN X0.here hx rfl (hb hby own_d1_0) rfl ?_
    refine XS.bipush X0.here hx rfl (hb hby own_d1_1) ?_
    refine XS.icmpYes X0.here hx rfl (pc0 := 3) (pc' := 127) rfl (hb hby own_d1_3) rfl (feq ((by decide) : ¬ ((11 : Int32) = (9 : Int32)))).2 (by decide) (by decide) ?_
    refine XS.iloadN X0.here hx rfl (hb hby own_d1_127) rfl ?_
    refine XS.bipush X0.here hx rfl (hb hby own_d1_128) ?_
    refine XS.icmpYes X0.here hx rfl (pc0 := 130) (pc' := 267) rfl (hb hby own_d1_130) rfl (feq ((by decide) : ¬ ((11 : Int32) = (10 : Int32)))).2 (by decide) (by decide) ?_
    refine XS.iloadN X0.here hx rfl (hb hby own_d1_267) rfl ?_
    refine XS.bipush X0.here hx rfl (hb hby own_d1_268) ?_
    refine XS.icmpNo X0.here hx rfl (hb hby own_d1_270) rfl (teq ((by decide) : (11 : Int32) = (11 : Int32))).2 ?_
    refine XS.bipush X0.here hx rfl (hb hby own_d1_273) ?_
    exact k)
  obtain ⟨T101, h101, k101, X101, e101, E101, A101, st101⟩ := newP X0 hx hZ (own_i hw 29 rfl) e0 (g := (mkF m 275 #[sR oa, sI 11, sI vp, sI vc, .unset] [(.int 11)])) rfl (hb hby own_d1_275) rfl (by decide) (cap := 11) (by decide) (by decide) (by decide) (by decide)
  obtain ⟨b101, g101⟩ : ∃ z, z = h0.size := ⟨_, rfl⟩
  rw [← g101] at A101 st101
  have Xo101 := X00.ext E101
  have KK101 := KK0.ext E101
  have ge_b101 := Nat.le_trans (own_ole X00) (Nat.le_of_eq g101.symm)
  have sz_b101 := Nat.le_trans KK0.1 (Nat.le_of_eq g101.symm)
  have V101 : Arv Z h101 b101 k101 .char (11 : Int32) [(.int 0), (.int 0), (.int 0), (.int 0), (.int 0), (.int 0), (.int 0), (.int 0), (.int 0), (.int 0), (.int 0)] (.int (0 : Int32)) := (Arv.new A101 (by decide)).pad (pad_rep [] (.int (0 : Int32)) 11)
  refine own_to ?_ st101
  refine own_to (V := T101.setTop (mkF m 286 #[sR oa, sI 11, sI vp, sI vc, sR b101] [(.int vc), (.int vp), (.int 0), (.ref oa), (.int 0), (.ref b101)])) ?_ fun t k => (by
    refine XS.astore X101.here hx rfl (hb hby own_d1_277) rfl rfl (l' := #[sR oa, sI 11, sI vp, sI vc, sR b101]) rfl ?_
    refine XS.aload X101.here hx rfl (hb hby own_d1_279) rfl rfl ?_
    refine XS.iconst X101.here hx rfl (hb hby own_d1_281) ?_
    refine XS.aloadN X101.here hx rfl (hb hby own_d1_282) rfl rfl ?_
    refine XS.iconst X101.here hx rfl (hb hby own_d1_283) ?_
    refine XS.iloadN X101.here hx rfl (hb hby own_d1_284) rfl ?_
    refine XS.iloadN X101.here hx rfl (hb hby own_d1_285) rfl ?_
    exact k)
  have F103 := (hS.ext E101)
  obtain ⟨_, _, ⟨T102, L102, k102, n102⟩, -, X102, ⟨Lc102, hQ102, l102, y102, z102⟩, st102⟩ := Jvm.LawKit.callS X101 hx (y := own_mn0) hown (mvT hZ (own_i hw 30 rfl)) (mvT hZ (own_i hw 31 rfl)) (mvT hZ (own_i hw 27 rfl)) (mvT hZ (own_i hw 32 rfl)) (by decide) (backOf (W := 2) (own_rmatP0 l Z a0 hw hst [] oa ua vp vc h101 n0 Xo101 F103 hc) hZ (own_i hw 32 rfl) (own_i hw 27 rfl) (by decide) (by decide)) (g := (mkF m 286 #[sR oa, sI 11, sI vp, sI vc, sR b101] [(.int vc), (.int vp), (.int 0), (.ref oa), (.int 0), (.ref b101)])) rfl (by rw [hml]; rfl) (argsL := [(.ref oa), (.int 0), (.int vp), (.int vc)]) (rest := [(.int 0), (.ref b101)]) (lenOf own_pd2 rfl) rfl (by show 2 * 0 + _ ≤ _; exact Nat.le_of_eq rfl) (hb hby own_d1_286) (fun _ _ => ⟨rfl, e101, (by decide : 1 + 0 ≤ _), (by decide : 11 + 0 ≤ _)⟩)
  dsimp only [own_R, Pt.U, Pt.locs, Pt.cells, Pt.slots] at X102 l102 y102 z102 st102 hQ102
  subst y102 z102
  obtain ⟨oc102, hv102, N102q, K102, g102_0, g102_1⟩ := hQ102
  subst hv102
  obtain ⟨h102, e102⟩ : ∃ z, T102.heap = z := ⟨_, rfl⟩
  rw [e102] at K102
  have Xo102 := Xo101.keep K102 all0
  have KK102 := KK101.trans K102 all0
  have N102 : Fr n0 L102 := by rw [l102]; exact Fr.app N0 N102q
  refine own_to ?_ st102
  have F104 := (V101.keep K102 List.not_mem_nil)
  obtain ⟨cl105, Ar105, q105, S105, M105, H105, G105⟩ := id F104
  obtain ⟨T105, h105, X105, e105, W105, st105⟩ := stC X102 hx hZ e102 Ar105 (j := (0 : Int32)) (inb_of S105 ⟨by decide, by decide⟩) (g := (mkF m 289 #[sR oa, sI 11, sI vp, sI vc, sR b101] [(.int oc102), (.int 0), (.ref b101)])) rfl rfl (hb hby own_d1_289)
  rw [own_narC (own_up g102_1)] at W105
  have Xo105 := Xo102.wr W105 ge_b101
  have KK105 := KK102.wr W105 (Or.inr sz_b101)
  have V105 : Arv Z h105 b101 k101 .char (11 : Int32) [(.int oc102), (.int 0), (.int 0), (.int 0), (.int 0), (.int 0), (.int 0), (.int 0), (.int 0), (.int 0), (.int 0)] (.int (0 : Int32)) := Arv.set Ar105 q105 S105 M105 H105 G105 (own_fitC (own_up g102_1)) W105 0 rfl (Nat.le_of_ble_eq_true rfl)
  have N105 := Fr.snoc X105 N102 ge_b101
  refine own_to ?_ st105
  refine own_to (V := T105.setTop (mkF m 297 #[sR oa, sI 11, sI vp, sI vc, sR b101] [(.int vc), (.int vp), (.int 1), (.ref oa), (.int 1), (.ref b101)])) ?_ fun t k => (by
    refine XS.aload X105.here hx rfl (hb hby own_d1_290) rfl rfl ?_
    refine XS.iconst X105.here hx rfl (hb hby own_d1_292) ?_
    refine XS.aloadN X105.here hx rfl (hb hby own_d1_293) rfl rfl ?_
    refine XS.iconst X105.here hx rfl (hb hby own_d1_294) ?_
    refine XS.iloadN X105.here hx rfl (hb hby own_d1_295) rfl ?_
    refine XS.iloadN X105.here hx rfl (hb hby own_d1_296) rfl ?_
    exact k)
  have F107 := ((F103.keep K102 List.not_mem_nil List.not_mem_nil).wr W105 (Nat.ne_of_lt (Nat.lt_of_lt_of_le hS.lt (Nat.le_of_eq g101.symm))) (Nat.ne_of_lt (Nat.lt_of_lt_of_le hS.lt2 (Nat.le_of_eq g101.symm))))
  obtain ⟨_, _, ⟨T106, L106, k106, n106⟩, -, X106, ⟨Lc106, hQ106, l106, y106, z106⟩, st106⟩ := Jvm.LawKit.callS X105 hx (y := own_mn0) hown (mvT hZ (own_i hw 30 rfl)) (mvT hZ (own_i hw 31 rfl)) (mvT hZ (own_i hw 27 rfl)) (mvT hZ (own_i hw 32 rfl)) (by decide) (backOf (W := 2) (own_rmatP1 l Z a0 hw hst [] oa ua vp vc h105 n0 Xo105 F107 hc) hZ (own_i hw 32 rfl) (own_i hw 27 rfl) (by decide) (by decide)) (g := (mkF m 297 #[sR oa, sI 11, sI vp, sI vc, sR b101] [(.int vc), (.int vp), (.int 1), (.ref oa), (.int 1), (.ref b101)])) rfl (by rw [hml]; rfl) (argsL := [(.ref oa), (.int 1), (.int vp), (.int vc)]) (rest := [(.int 1), (.ref b101)]) (lenOf own_pd2 rfl) rfl (by show 2 * 0 + _ ≤ _; exact Nat.le_of_eq rfl) (hb hby own_d1_297) (fun _ _ => ⟨rfl, e105, (by decide : 1 + 0 ≤ _), (by decide : 11 + 0 ≤ _)⟩)
  dsimp only [own_R, Pt.U, Pt.locs, Pt.cells, Pt.slots] at X106 l106 y106 z106 st106 hQ106
  subst y106 z106
  obtain ⟨oc106, hv106, N106q, K106, g106_0, g106_1⟩ := hQ106
  subst hv106
  obtain ⟨h106, e106⟩ : ∃ z, T106.heap = z := ⟨_, rfl⟩
  rw [e106] at K106
  have Xo106 := Xo105.keep K106 all0
  have KK106 := KK105.trans K106 all0
  have N106 : Fr n0 L106 := by rw [l106]; exact Fr.app N105 N106q
  refine own_to ?_ st106
  have F108 := (V105.keep K106 List.not_mem_nil)
  obtain ⟨cl109, Ar109, q109, S109, M109, H109, G109⟩ := id F108
  obtain ⟨T109, h109, X109, e109, W109, st109⟩ := stC X106 hx hZ e106 Ar109 (j := (1 : Int32)) (inb_of S109 ⟨by decide, by decide⟩) (g := (mkF m 300 #[sR oa, sI 11, sI vp, sI vc, sR b101] [(.int oc106), (.int 1), (.ref b101)])) rfl rfl (hb hby own_d1_300)
  rw [own_narC (own_up g106_1)] at W109
  have Xo109 := Xo106.wr W109 ge_b101
  have KK109 := KK106.wr W109 (Or.inr sz_b101)
  have V109 : Arv Z h109 b101 k101 .char (11 : Int32) [(.int oc102), (.int oc106), (.int 0), (.int 0), (.int 0), (.int 0), (.int 0), (.int 0), (.int 0), (.int 0), (.int 0)] (.int (0 : Int32)) := Arv.set Ar109 q109 S109 M109 H109 G109 (own_fitC (own_up g106_1)) W109 1 rfl (Nat.le_of_ble_eq_true rfl)
  have N109 := Fr.snoc X109 N106 ge_b101
  refine own_to ?_ st109
  refine own_to (V := T109.setTop (mkF m 308 #[sR oa, sI 11, sI vp, sI vc, sR b101] [(.int vc), (.int vp), (.int 2), (.ref oa), (.int 2), (.ref b101)])) ?_ fun t k => (by
    refine XS.aload X109.here hx rfl (hb hby own_d1_301) rfl rfl ?_
    refine XS.iconst X109.here hx rfl (hb hby own_d1_303) ?_
    refine XS.aloadN X109.here hx rfl (hb hby own_d1_304) rfl rfl ?_
    refine XS.iconst X109.here hx rfl (hb hby own_d1_305) ?_
    refine XS.iloadN X109.here hx rfl (hb hby own_d1_306) rfl ?_
    refine XS.iloadN X109.here hx rfl (hb hby own_d1_307) rfl ?_
    exact k)
  have F111 := ((F107.keep K106 List.not_mem_nil List.not_mem_nil).wr W109 (Nat.ne_of_lt (Nat.lt_of_lt_of_le hS.lt (Nat.le_of_eq g101.symm))) (Nat.ne_of_lt (Nat.lt_of_lt_of_le hS.lt2 (Nat.le_of_eq g101.symm))))
  obtain ⟨_, _, ⟨T110, L110, k110, n110⟩, -, X110, ⟨Lc110, hQ110, l110, y110, z110⟩, st110⟩ := Jvm.LawKit.callS X109 hx (y := own_mn0) hown (mvT hZ (own_i hw 30 rfl)) (mvT hZ (own_i hw 31 rfl)) (mvT hZ (own_i hw 27 rfl)) (mvT hZ (own_i hw 32 rfl)) (by decide) (backOf (W := 2) (own_rmatP2 l Z a0 hw hst [] oa ua vp vc h109 n0 Xo109 F111 hc) hZ (own_i hw 32 rfl) (own_i hw 27 rfl) (by decide) (by decide)) (g := (mkF m 308 #[sR oa, sI 11, sI vp, sI vc, sR b101] [(.int vc), (.int vp), (.int 2), (.ref oa), (.int 2), (.ref b101)])) rfl (by rw [hml]; rfl) (argsL := [(.ref oa), (.int 2), (.int vp), (.int vc)]) (rest := [(.int 2), (.ref b101)]) (lenOf own_pd2 rfl) rfl (by show 2 * 0 + _ ≤ _; exact Nat.le_of_eq rfl) (hb hby own_d1_308) (fun _ _ => ⟨rfl, e109, (by decide : 1 + 0 ≤ _), (by decide : 11 + 0 ≤ _)⟩)
  dsimp only [own_R, Pt.U, Pt.locs, Pt.cells, Pt.slots] at X110 l110 y110 z110 st110 hQ110
  subst y110 z110
  obtain ⟨oc110, hv110, N110q, K110, g110_0, g110_1⟩ := hQ110
  subst hv110
  obtain ⟨h110, e110⟩ : ∃ z, T110.heap = z := ⟨_, rfl⟩
  rw [e110] at K110
  have Xo110 := Xo109.keep K110 all0
  have KK110 := KK109.trans K110 all0
  have N110 : Fr n0 L110 := by rw [l110]; exact Fr.app N109 N110q
  refine own_to ?_ st110
  have F112 := (V109.keep K110 List.not_mem_nil)
  obtain ⟨cl113, Ar113, q113, S113, M113, H113, G113⟩ := id F112
  obtain ⟨T113, h113, X113, e113, W113, st113⟩ := stC X110 hx hZ e110 Ar113 (j := (2 : Int32)) (inb_of S113 ⟨by decide, by decide⟩) (g := (mkF m 311 #[sR oa, sI 11, sI vp, sI vc, sR b101] [(.int oc110), (.int 2), (.ref b101)])) rfl rfl (hb hby own_d1_311)
  rw [own_narC (own_up g110_1)] at W113
  have Xo113 := Xo110.wr W113 ge_b101
  have KK113 := KK110.wr W113 (Or.inr sz_b101)
  have V113 : Arv Z h113 b101 k101 .char (11 : Int32) [(.int oc102), (.int oc106), (.int oc110), (.int 0), (.int 0), (.int 0), (.int 0), (.int 0), (.int 0), (.int 0), (.int 0)] (.int (0 : Int32)) := Arv.set Ar113 q113 S113 M113 H113 G113 (own_fitC (own_up g110_1)) W113 2 rfl (Nat.le_of_ble_eq_true rfl)
  have N113 := Fr.snoc X113 N110 ge_b101
  refine own_to ?_ st113
  refine own_to (V := T113.setTop (mkF m 319 #[sR oa, sI 11, sI vp, sI vc, sR b101] [(.int vc), (.int vp), (.int 3), (.ref oa), (.int 3), (.ref b101)])) ?_ fun t k => (by
    refine XS.aload X113.here hx rfl (hb hby own_d1_312) rfl rfl ?_
    refine XS.iconst X113.here hx rfl (hb hby own_d1_314) ?_
    refine XS.aloadN X113.here hx rfl (hb hby own_d1_315) rfl rfl ?_
    refine XS.iconst X113.here hx rfl (hb hby own_d1_316) ?_
    refine XS.iloadN X113.here hx rfl (hb hby own_d1_317) rfl ?_
    refine XS.iloadN X113.here hx rfl (hb hby own_d1_318) rfl ?_
    exact k)
  have F115 := ((F111.keep K110 List.not_mem_nil List.not_mem_nil).wr W113 (Nat.ne_of_lt (Nat.lt_of_lt_of_le hS.lt (Nat.le_of_eq g101.symm))) (Nat.ne_of_lt (Nat.lt_of_lt_of_le hS.lt2 (Nat.le_of_eq g101.symm))))
  obtain ⟨_, _, ⟨T114, L114, k114, n114⟩, -, X114, ⟨Lc114, hQ114, l114, y114, z114⟩, st114⟩ := Jvm.LawKit.callS X113 hx (y := own_mn0) hown (mvT hZ (own_i hw 30 rfl)) (mvT hZ (own_i hw 31 rfl)) (mvT hZ (own_i hw 27 rfl)) (mvT hZ (own_i hw 32 rfl)) (by decide) (backOf (W := 2) (own_rmatP3 l Z a0 hw hst [] oa ua vp vc h113 n0 Xo113 F115 hc) hZ (own_i hw 32 rfl) (own_i hw 27 rfl) (by decide) (by decide)) (g := (mkF m 319 #[sR oa, sI 11, sI vp, sI vc, sR b101] [(.int vc), (.int vp), (.int 3), (.ref oa), (.int 3), (.ref b101)])) rfl (by rw [hml]; rfl) (argsL := [(.ref oa), (.int 3), (.int vp), (.int vc)]) (rest := [(.int 3), (.ref b101)]) (lenOf own_pd2 rfl) rfl (by show 2 * 0 + _ ≤ _; exact Nat.le_of_eq rfl) (hb hby own_d1_319) (fun _ _ => ⟨rfl, e113, (by decide : 1 + 0 ≤ _), (by decide : 11 + 0 ≤ _)⟩)
  dsimp only [own_R, Pt.U, Pt.locs, Pt.cells, Pt.slots] at X114 l114 y114 z114 st114 hQ114
  subst y114 z114
  obtain ⟨oc114, hv114, N114q, K114, g114_0, g114_1⟩ := hQ114
  subst hv114
  obtain ⟨h114, e114⟩ : ∃ z, T114.heap = z := ⟨_, rfl⟩
  rw [e114] at K114
  have Xo114 := Xo113.keep K114 all0
  have KK114 := KK113.trans K114 all0
  have N114 : Fr n0 L114 := by rw [l114]; exact Fr.app N113 N114q
  refine own_to ?_ st114
  have F116 := (V113.keep K114 List.not_mem_nil)
  obtain ⟨cl117, Ar117, q117, S117, M117, H117, G117⟩ := id F116
  obtain ⟨T117, h117, X117, e117, W117, st117⟩ := stC X114 hx hZ e114 Ar117 (j := (3 : Int32)) (inb_of S117 ⟨by decide, by decide⟩) (g := (mkF m 322 #[sR oa, sI 11, sI vp, sI vc, sR b101] [(.int oc114), (.int 3), (.ref b101)])) rfl rfl (hb hby own_d1_322)
  rw [own_narC (own_up g114_1)] at W117
  have Xo117 := Xo114.wr W117 ge_b101
  have KK117 := KK114.wr W117 (Or.inr sz_b101)
  have V117 : Arv Z h117 b101 k101 .char (11 : Int32) [(.int oc102), (.int oc106), (.int oc110), (.int oc114), (.int 0), (.int 0), (.int 0), (.int 0), (.int 0), (.int 0), (.int 0)] (.int (0 : Int32)) := Arv.set Ar117 q117 S117 M117 H117 G117 (own_fitC (own_up g114_1)) W117 3 rfl (Nat.le_of_ble_eq_true rfl)
  have N117 := Fr.snoc X117 N114 ge_b101
  refine own_to ?_ st117
  refine own_to (V := T117.setTop (mkF m 330 #[sR oa, sI 11, sI vp, sI vc, sR b101] [(.int vc), (.int vp), (.int 4), (.ref oa), (.int 4), (.ref b101)])) ?_ fun t k => (by
    refine XS.aload X117.here hx rfl (hb hby own_d1_323) rfl rfl ?_
    refine XS.iconst X117.here hx rfl (hb hby own_d1_325) ?_
    refine XS.aloadN X117.here hx rfl (hb hby own_d1_326) rfl rfl ?_
    refine XS.iconst X117.here hx rfl (hb hby own_d1_327) ?_
    refine XS.iloadN X117.here hx rfl (hb hby own_d1_328) rfl ?_
    refine XS.iloadN X117.here hx rfl (hb hby own_d1_329) rfl ?_
    exact k)
  have F119 := ((F115.keep K114 List.not_mem_nil List.not_mem_nil).wr W117 (Nat.ne_of_lt (Nat.lt_of_lt_of_le hS.lt (Nat.le_of_eq g101.symm))) (Nat.ne_of_lt (Nat.lt_of_lt_of_le hS.lt2 (Nat.le_of_eq g101.symm))))
  obtain ⟨_, _, ⟨T118, L118, k118, n118⟩, -, X118, ⟨Lc118, hQ118, l118, y118, z118⟩, st118⟩ := Jvm.LawKit.callS X117 hx (y := own_mn0) hown (mvT hZ (own_i hw 30 rfl)) (mvT hZ (own_i hw 31 rfl)) (mvT hZ (own_i hw 27 rfl)) (mvT hZ (own_i hw 32 rfl)) (by decide) (backOf (W := 2) (own_rmatP4 l Z a0 hw hst [] oa ua vp vc h117 n0 Xo117 F119 hc) hZ (own_i hw 32 rfl) (own_i hw 27 rfl) (by decide) (by decide)) (g := (mkF m 330 #[sR oa, sI 11, sI vp, sI vc, sR b101] [(.int vc), (.int vp), (.int 4), (.ref oa), (.int 4), (.ref b101)])) rfl (by rw [hml]; rfl) (argsL := [(.ref oa), (.int 4), (.int vp), (.int vc)]) (rest := [(.int 4), (.ref b101)]) (lenOf own_pd2 rfl) rfl (by show 2 * 0 + _ ≤ _; exact Nat.le_of_eq rfl) (hb hby own_d1_330) (fun _ _ => ⟨rfl, e117, (by decide : 1 + 0 ≤ _), (by decide : 11 + 0 ≤ _)⟩)
  dsimp only [own_R, Pt.U, Pt.locs, Pt.cells, Pt.slots] at X118 l118 y118 z118 st118 hQ118
  subst y118 z118
  obtain ⟨oc118, hv118, N118q, K118, g118_0, g118_1⟩ := hQ118
  subst hv118
  obtain ⟨h118, e118⟩ : ∃ z, T118.heap = z := ⟨_, rfl⟩
  rw [e118] at K118
  have Xo118 := Xo117.keep K118 all0
  have KK118 := KK117.trans K118 all0
  have N118 : Fr n0 L118 := by rw [l118]; exact Fr.app N117 N118q
  refine own_to ?_ st118
  have F120 := (V117.keep K118 List.not_mem_nil)
  obtain ⟨cl121, Ar121, q121, S121, M121, H121, G121⟩ := id F120
  obtain ⟨T121, h121, X121, e121, W121, st121⟩ := stC X118 hx hZ e118 Ar121 (j := (4 : Int32)) (inb_of S121 ⟨by decide, by decide⟩) (g := (mkF m 333 #[sR oa, sI 11, sI vp, sI vc, sR b101] [(.int oc118), (.int 4), (.ref b101)])) rfl rfl (hb hby own_d1_333)
  rw [own_narC (own_up g118_1)] at W121
  have Xo121 := Xo118.wr W121 ge_b101
  have KK121 := KK118.wr W121 (Or.inr sz_b101)
  have V121 : Arv Z h121 b101 k101 .char (11 : Int32) [(.int oc102), (.int oc106), (.int oc110), (.int oc114), (.int oc118), (.int 0), (.int 0), (.int 0), (.int 0), (.int 0), (.int 0)] (.int (0 : Int32)) := Arv.set Ar121 q121 S121 M121 H121 G121 (own_fitC (own_up g118_1)) W121 4 rfl (Nat.le_of_ble_eq_true rfl)
  have N121 := Fr.snoc X121 N118 ge_b101
  refine own_to ?_ st121
  refine own_to (V := T121.setTop (mkF m 341 #[sR oa, sI 11, sI vp, sI vc, sR b101] [(.int vc), (.int vp), (.int 5), (.ref oa), (.int 5), (.ref b101)])) ?_ fun t k => (by
    refine XS.aload X121.here hx rfl (hb hby own_d1_334) rfl rfl ?_
    refine XS.iconst X121.here hx rfl (hb hby own_d1_336) ?_
    refine XS.aloadN X121.here hx rfl (hb hby own_d1_337) rfl rfl ?_
    refine XS.iconst X121.here hx rfl (hb hby own_d1_338) ?_
    refine XS.iloadN X121.here hx rfl (hb hby own_d1_339) rfl ?_
    refine XS.iloadN X121.here hx rfl (hb hby own_d1_340) rfl ?_
    exact k)
  have F123 := ((F119.keep K118 List.not_mem_nil List.not_mem_nil).wr W121 (Nat.ne_of_lt (Nat.lt_of_lt_of_le hS.lt (Nat.le_of_eq g101.symm))) (Nat.ne_of_lt (Nat.lt_of_lt_of_le hS.lt2 (Nat.le_of_eq g101.symm))))
  obtain ⟨_, _, ⟨T122, L122, k122, n122⟩, -, X122, ⟨Lc122, hQ122, l122, y122, z122⟩, st122⟩ := Jvm.LawKit.callS X121 hx (y := own_mn0) hown (mvT hZ (own_i hw 30 rfl)) (mvT hZ (own_i hw 31 rfl)) (mvT hZ (own_i hw 27 rfl)) (mvT hZ (own_i hw 32 rfl)) (by decide) (backOf (W := 2) (own_rmatP5 l Z a0 hw hst [] oa ua vp vc h121 n0 Xo121 F123 hc) hZ (own_i hw 32 rfl) (own_i hw 27 rfl) (by decide) (by decide)) (g := (mkF m 341 #[sR oa, sI 11, sI vp, sI vc, sR b101] [(.int vc), (.int vp), (.int 5), (.ref oa), (.int 5), (.ref b101)])) rfl (by rw [hml]; rfl) (argsL := [(.ref oa), (.int 5), (.int vp), (.int vc)]) (rest := [(.int 5), (.ref b101)]) (lenOf own_pd2 rfl) rfl (by show 2 * 0 + _ ≤ _; exact Nat.le_of_eq rfl) (hb hby own_d1_341) (fun _ _ => ⟨rfl, e121, (by decide : 1 + 0 ≤ _), (by decide : 11 + 0 ≤ _)⟩)
  dsimp only [own_R, Pt.U, Pt.locs, Pt.cells, Pt.slots] at X122 l122 y122 z122 st122 hQ122
  subst y122 z122
  obtain ⟨oc122, hv122, N122q, K122, g122_0, g122_1⟩ := hQ122
  subst hv122
  obtain ⟨h122, e122⟩ : ∃ z, T122.heap = z := ⟨_, rfl⟩
  rw [e122] at K122
  have Xo122 := Xo121.keep K122 all0
  have KK122 := KK121.trans K122 all0
  have N122 : Fr n0 L122 := by rw [l122]; exact Fr.app N121 N122q
  refine own_to ?_ st122
  have F124 := (V121.keep K122 List.not_mem_nil)
  obtain ⟨cl125, Ar125, q125, S125, M125, H125, G125⟩ := id F124
  obtain ⟨T125, h125, X125, e125, W125, st125⟩ := stC X122 hx hZ e122 Ar125 (j := (5 : Int32)) (inb_of S125 ⟨by decide, by decide⟩) (g := (mkF m 344 #[sR oa, sI 11, sI vp, sI vc, sR b101] [(.int oc122), (.int 5), (.ref b101)])) rfl rfl (hb hby own_d1_344)
  rw [own_narC (own_up g122_1)] at W125
  have Xo125 := Xo122.wr W125 ge_b101
  have KK125 := KK122.wr W125 (Or.inr sz_b101)
  have V125 : Arv Z h125 b101 k101 .char (11 : Int32) [(.int oc102), (.int oc106), (.int oc110), (.int oc114), (.int oc118), (.int oc122), (.int 0), (.int 0), (.int 0), (.int 0), (.int 0)] (.int (0 : Int32)) := Arv.set Ar125 q125 S125 M125 H125 G125 (own_fitC (own_up g122_1)) W125 5 rfl (Nat.le_of_ble_eq_true rfl)
  have N125 := Fr.snoc X125 N122 ge_b101
  refine own_to ?_ st125
  refine own_to (V := T125.setTop (mkF m 354 #[sR oa, sI 11, sI vp, sI vc, sR b101] [(.int vc), (.int vp), (.int 6), (.ref oa), (.int 6), (.ref b101)])) ?_ fun t k => (by
    refine XS.aload X125.here hx rfl (hb hby own_d1_345) rfl rfl ?_
    refine XS.bipush X125.here hx rfl (hb hby own_d1_347) ?_
    refine XS.aloadN X125.here hx rfl (hb hby own_d1_349) rfl rfl ?_
    refine XS.bipush X125.here hx rfl (hb hby own_d1_350) ?_
    refine XS.iloadN X125.here hx rfl (hb hby own_d1_352) rfl ?_
    refine XS.iloadN X125.here hx rfl (hb hby own_d1_353) rfl ?_
    exact k)
  have F127 := ((F123.keep K122 List.not_mem_nil List.not_mem_nil).wr W125 (Nat.ne_of_lt (Nat.lt_of_lt_of_le hS.lt (Nat.le_of_eq g101.symm))) (Nat.ne_of_lt (Nat.lt_of_lt_of_le hS.lt2 (Nat.le_of_eq g101.symm))))
  obtain ⟨_, _, ⟨T126, L126, k126, n126⟩, -, X126, ⟨Lc126, hQ126, l126, y126, z126⟩, st126⟩ := Jvm.LawKit.callS X125 hx (y := own_mn0) hown (mvT hZ (own_i hw 30 rfl)) (mvT hZ (own_i hw 31 rfl)) (mvT hZ (own_i hw 27 rfl)) (mvT hZ (own_i hw 32 rfl)) (by decide) (backOf (W := 2) (own_rmatP6 l Z a0 hw hst [] oa ua vp vc h125 n0 Xo125 F127 hc) hZ (own_i hw 32 rfl) (own_i hw 27 rfl) (by decide) (by decide)) (g := (mkF m 354 #[sR oa, sI 11, sI vp, sI vc, sR b101] [(.int vc), (.int vp), (.int 6), (.ref oa), (.int 6), (.ref b101)])) rfl (by rw [hml]; rfl) (argsL := [(.ref oa), (.int 6), (.int vp), (.int vc)]) (rest := [(.int 6), (.ref b101)]) (lenOf own_pd2 rfl) rfl (by show 2 * 0 + _ ≤ _; exact Nat.le_of_eq rfl) (hb hby own_d1_354) (fun _ _ => ⟨rfl, e125, (by decide : 1 + 0 ≤ _), (by decide : 11 + 0 ≤ _)⟩)
  dsimp only [own_R, Pt.U, Pt.locs, Pt.cells, Pt.slots] at X126 l126 y126 z126 st126 hQ126
  subst y126 z126
  obtain ⟨oc126, hv126, N126q, K126, g126_0, g126_1⟩ := hQ126
  subst hv126
  obtain ⟨h126, e126⟩ : ∃ z, T126.heap = z := ⟨_, rfl⟩
  rw [e126] at K126
  have Xo126 := Xo125.keep K126 all0
  have KK126 := KK125.trans K126 all0
  have N126 : Fr n0 L126 := by rw [l126]; exact Fr.app N125 N126q
  refine own_to ?_ st126
  have F128 := (V125.keep K126 List.not_mem_nil)
  obtain ⟨cl129, Ar129, q129, S129, M129, H129, G129⟩ := id F128
  obtain ⟨T129, h129, X129, e129, W129, st129⟩ := stC X126 hx hZ e126 Ar129 (j := (6 : Int32)) (inb_of S129 ⟨by decide, by decide⟩) (g := (mkF m 357 #[sR oa, sI 11, sI vp, sI vc, sR b101] [(.int oc126), (.int 6), (.ref b101)])) rfl rfl (hb hby own_d1_357)
  rw [own_narC (own_up g126_1)] at W129
  have Xo129 := Xo126.wr W129 ge_b101
  have KK129 := KK126.wr W129 (Or.inr sz_b101)
  have V129 : Arv Z h129 b101 k101 .char (11 : Int32) [(.int oc102), (.int oc106), (.int oc110), (.int oc114), (.int oc118), (.int oc122), (.int oc126), (.int 0), (.int 0), (.int 0), (.int 0)] (.int (0 : Int32)) := Arv.set Ar129 q129 S129 M129 H129 G129 (own_fitC (own_up g126_1)) W129 6 rfl (Nat.le_of_ble_eq_true rfl)
  have N129 := Fr.snoc X129 N126 ge_b101
  refine own_to ?_ st129
  refine own_to (V := T129.setTop (mkF m 367 #[sR oa, sI 11, sI vp, sI vc, sR b101] [(.int vc), (.int vp), (.int 7), (.ref oa), (.int 7), (.ref b101)])) ?_ fun t k => (by
    refine XS.aload X129.here hx rfl (hb hby own_d1_358) rfl rfl ?_
    refine XS.bipush X129.here hx rfl (hb hby own_d1_360) ?_
    refine XS.aloadN X129.here hx rfl (hb hby own_d1_362) rfl rfl ?_
    refine XS.bipush X129.here hx rfl (hb hby own_d1_363) ?_
    refine XS.iloadN X129.here hx rfl (hb hby own_d1_365) rfl ?_
    refine XS.iloadN X129.here hx rfl (hb hby own_d1_366) rfl ?_
    exact k)
  have F131 := ((F127.keep K126 List.not_mem_nil List.not_mem_nil).wr W129 (Nat.ne_of_lt (Nat.lt_of_lt_of_le hS.lt (Nat.le_of_eq g101.symm))) (Nat.ne_of_lt (Nat.lt_of_lt_of_le hS.lt2 (Nat.le_of_eq g101.symm))))
  obtain ⟨_, _, ⟨T130, L130, k130, n130⟩, -, X130, ⟨Lc130, hQ130, l130, y130, z130⟩, st130⟩ := Jvm.LawKit.callS X129 hx (y := own_mn0) hown (mvT hZ (own_i hw 30 rfl)) (mvT hZ (own_i hw 31 rfl)) (mvT hZ (own_i hw 27 rfl)) (mvT hZ (own_i hw 32 rfl)) (by decide) (backOf (W := 2) (own_rmatP7 l Z a0 hw hst [] oa ua vp vc h129 n0 Xo129 F131 hc) hZ (own_i hw 32 rfl) (own_i hw 27 rfl) (by decide) (by decide)) (g := (mkF m 367 #[sR oa, sI 11, sI vp, sI vc, sR b101] [(.int vc), (.int vp), (.int 7), (.ref oa), (.int 7), (.ref b101)])) rfl (by rw [hml]; rfl) (argsL := [(.ref oa), (.int 7), (.int vp), (.int vc)]) (rest := [(.int 7), (.ref b101)]) (lenOf own_pd2 rfl) rfl (by show 2 * 0 + _ ≤ _; exact Nat.le_of_eq rfl) (hb hby own_d1_367) (fun _ _ => ⟨rfl, e129, (by decide : 1 + 0 ≤ _), (by decide : 11 + 0 ≤ _)⟩)
  dsimp only [own_R, Pt.U, Pt.locs, Pt.cells, Pt.slots] at X130 l130 y130 z130 st130 hQ130
  subst y130 z130
  obtain ⟨oc130, hv130, N130q, K130, g130_0, g130_1⟩ := hQ130
  subst hv130
  obtain ⟨h130, e130⟩ : ∃ z, T130.heap = z := ⟨_, rfl⟩
  rw [e130] at K130
  have Xo130 := Xo129.keep K130 all0
  have KK130 := KK129.trans K130 all0
  have N130 : Fr n0 L130 := by rw [l130]; exact Fr.app N129 N130q
  refine own_to ?_ st130
  have F132 := (V129.keep K130 List.not_mem_nil)
  obtain ⟨cl133, Ar133, q133, S133, M133, H133, G133⟩ := id F132
  obtain ⟨T133, h133, X133, e133, W133, st133⟩ := stC X130 hx hZ e130 Ar133 (j := (7 : Int32)) (inb_of S133 ⟨by decide, by decide⟩) (g := (mkF m 370 #[sR oa, sI 11, sI vp, sI vc, sR b101] [(.int oc130), (.int 7), (.ref b101)])) rfl rfl (hb hby own_d1_370)
  rw [own_narC (own_up g130_1)] at W133
  have Xo133 := Xo130.wr W133 ge_b101
  have KK133 := KK130.wr W133 (Or.inr sz_b101)
  have V133 : Arv Z h133 b101 k101 .char (11 : Int32) [(.int oc102), (.int oc106), (.int oc110), (.int oc114), (.int oc118), (.int oc122), (.int oc126), (.int oc130), (.int 0), (.int 0), (.int 0)] (.int (0 : Int32)) := Arv.set Ar133 q133 S133 M133 H133 G133 (own_fitC (own_up g130_1)) W133 7 rfl (Nat.le_of_ble_eq_true rfl)
  have N133 := Fr.snoc X133 N130 ge_b101
  refine own_to ?_ st133
  refine own_to (V := T133.setTop (mkF m 380 #[sR oa, sI 11, sI vp, sI vc, sR b101] [(.int vc), (.int vp), (.int 8), (.ref oa), (.int 8), (.ref b101)])) ?_ fun t k => (by
    refine XS.aload X133.here hx rfl (hb hby own_d1_371) rfl rfl ?_
    refine XS.bipush X133.here hx rfl (hb hby own_d1_373) ?_
    refine XS.aloadN X133.here hx rfl (hb hby own_d1_375) rfl rfl ?_
    refine XS.bipush X133.here hx rfl (hb hby own_d1_376) ?_
    refine XS.iloadN X133.here hx rfl (hb hby own_d1_378) rfl ?_
    refine XS.iloadN X133.here hx rfl (hb hby own_d1_379) rfl ?_
    exact k)
  have F135 := ((F131.keep K130 List.not_mem_nil List.not_mem_nil).wr W133 (Nat.ne_of_lt (Nat.lt_of_lt_of_le hS.lt (Nat.le_of_eq g101.symm))) (Nat.ne_of_lt (Nat.lt_of_lt_of_le hS.lt2 (Nat.le_of_eq g101.symm))))
  obtain ⟨_, _, ⟨T134, L134, k134, n134⟩, -, X134, ⟨Lc134, hQ134, l134, y134, z134⟩, st134⟩ := Jvm.LawKit.callS X133 hx (y := own_mn0) hown (mvT hZ (own_i hw 30 rfl)) (mvT hZ (own_i hw 31 rfl)) (mvT hZ (own_i hw 27 rfl)) (mvT hZ (own_i hw 32 rfl)) (by decide) (backOf (W := 2) (own_rmatP8 l Z a0 hw hst [] oa ua vp vc h133 n0 Xo133 F135 hc) hZ (own_i hw 32 rfl) (own_i hw 27 rfl) (by decide) (by decide)) (g := (mkF m 380 #[sR oa, sI 11, sI vp, sI vc, sR b101] [(.int vc), (.int vp), (.int 8), (.ref oa), (.int 8), (.ref b101)])) rfl (by rw [hml]; rfl) (argsL := [(.ref oa), (.int 8), (.int vp), (.int vc)]) (rest := [(.int 8), (.ref b101)]) (lenOf own_pd2 rfl) rfl (by show 2 * 0 + _ ≤ _; exact Nat.le_of_eq rfl) (hb hby own_d1_380) (fun _ _ => ⟨rfl, e133, (by decide : 1 + 0 ≤ _), (by decide : 11 + 0 ≤ _)⟩)
  dsimp only [own_R, Pt.U, Pt.locs, Pt.cells, Pt.slots] at X134 l134 y134 z134 st134 hQ134
  subst y134 z134
  obtain ⟨oc134, hv134, N134q, K134, g134_0, g134_1⟩ := hQ134
  subst hv134
  obtain ⟨h134, e134⟩ : ∃ z, T134.heap = z := ⟨_, rfl⟩
  rw [e134] at K134
  have Xo134 := Xo133.keep K134 all0
  have KK134 := KK133.trans K134 all0
  have N134 : Fr n0 L134 := by rw [l134]; exact Fr.app N133 N134q
  refine own_to ?_ st134
  have F136 := (V133.keep K134 List.not_mem_nil)
  obtain ⟨cl137, Ar137, q137, S137, M137, H137, G137⟩ := id F136
  obtain ⟨T137, h137, X137, e137, W137, st137⟩ := stC X134 hx hZ e134 Ar137 (j := (8 : Int32)) (inb_of S137 ⟨by decide, by decide⟩) (g := (mkF m 383 #[sR oa, sI 11, sI vp, sI vc, sR b101] [(.int oc134), (.int 8), (.ref b101)])) rfl rfl (hb hby own_d1_383)
  rw [own_narC (own_up g134_1)] at W137
  have Xo137 := Xo134.wr W137 ge_b101
  have KK137 := KK134.wr W137 (Or.inr sz_b101)
  have V137 : Arv Z h137 b101 k101 .char (11 : Int32) [(.int oc102), (.int oc106), (.int oc110), (.int oc114), (.int oc118), (.int oc122), (.int oc126), (.int oc130), (.int oc134), (.int 0), (.int 0)] (.int (0 : Int32)) := Arv.set Ar137 q137 S137 M137 H137 G137 (own_fitC (own_up g134_1)) W137 8 rfl (Nat.le_of_ble_eq_true rfl)
  have N137 := Fr.snoc X137 N134 ge_b101
  refine own_to ?_ st137
  refine own_to (V := T137.setTop (mkF m 393 #[sR oa, sI 11, sI vp, sI vc, sR b101] [(.int vc), (.int vp), (.int 9), (.ref oa), (.int 9), (.ref b101)])) ?_ fun t k => (by
    refine XS.aload X137.here hx rfl (hb hby own_d1_384) rfl rfl ?_
    refine XS.bipush X137.here hx rfl (hb hby own_d1_386) ?_
    refine XS.aloadN X137.here hx rfl (hb hby own_d1_388) rfl rfl ?_
    refine XS.bipush X137.here hx rfl (hb hby own_d1_389) ?_
    refine XS.iloadN X137.here hx rfl (hb hby own_d1_391) rfl ?_
    refine XS.iloadN X137.here hx rfl (hb hby own_d1_392) rfl ?_
    exact k)
  have F139 := ((F135.keep K134 List.not_mem_nil List.not_mem_nil).wr W137 (Nat.ne_of_lt (Nat.lt_of_lt_of_le hS.lt (Nat.le_of_eq g101.symm))) (Nat.ne_of_lt (Nat.lt_of_lt_of_le hS.lt2 (Nat.le_of_eq g101.symm))))
  obtain ⟨_, _, ⟨T138, L138, k138, n138⟩, -, X138, ⟨Lc138, hQ138, l138, y138, z138⟩, st138⟩ := Jvm.LawKit.callS X137 hx (y := own_mn0) hown (mvT hZ (own_i hw 30 rfl)) (mvT hZ (own_i hw 31 rfl)) (mvT hZ (own_i hw 27 rfl)) (mvT hZ (own_i hw 32 rfl)) (by decide) (backOf (W := 2) (own_rmatP9 l Z a0 hw hst [] oa ua vp vc h137 n0 Xo137 F139 hc) hZ (own_i hw 32 rfl) (own_i hw 27 rfl) (by decide) (by decide)) (g := (mkF m 393 #[sR oa, sI 11, sI vp, sI vc, sR b101] [(.int vc), (.int vp), (.int 9), (.ref oa), (.int 9), (.ref b101)])) rfl (by rw [hml]; rfl) (argsL := [(.ref oa), (.int 9), (.int vp), (.int vc)]) (rest := [(.int 9), (.ref b101)]) (lenOf own_pd2 rfl) rfl (by show 2 * 0 + _ ≤ _; exact Nat.le_of_eq rfl) (hb hby own_d1_393) (fun _ _ => ⟨rfl, e137, (by decide : 1 + 0 ≤ _), (by decide : 11 + 0 ≤ _)⟩)
  dsimp only [own_R, Pt.U, Pt.locs, Pt.cells, Pt.slots] at X138 l138 y138 z138 st138 hQ138
  subst y138 z138
  obtain ⟨oc138, hv138, N138q, K138, g138_0, g138_1⟩ := hQ138
  subst hv138
  obtain ⟨h138, e138⟩ : ∃ z, T138.heap = z := ⟨_, rfl⟩
  rw [e138] at K138
  have Xo138 := Xo137.keep K138 all0
  have KK138 := KK137.trans K138 all0
  have N138 : Fr n0 L138 := by rw [l138]; exact Fr.app N137 N138q
  refine own_to ?_ st138
  have F140 := (V137.keep K138 List.not_mem_nil)
  obtain ⟨cl141, Ar141, q141, S141, M141, H141, G141⟩ := id F140
  obtain ⟨T141, h141, X141, e141, W141, st141⟩ := stC X138 hx hZ e138 Ar141 (j := (9 : Int32)) (inb_of S141 ⟨by decide, by decide⟩) (g := (mkF m 396 #[sR oa, sI 11, sI vp, sI vc, sR b101] [(.int oc138), (.int 9), (.ref b101)])) rfl rfl (hb hby own_d1_396)
  rw [own_narC (own_up g138_1)] at W141
  have Xo141 := Xo138.wr W141 ge_b101
  have KK141 := KK138.wr W141 (Or.inr sz_b101)
  have V141 : Arv Z h141 b101 k101 .char (11 : Int32) [(.int oc102), (.int oc106), (.int oc110), (.int oc114), (.int oc118), (.int oc122), (.int oc126), (.int oc130), (.int oc134), (.int oc138), (.int 0)] (.int (0 : Int32)) := Arv.set Ar141 q141 S141 M141 H141 G141 (own_fitC (own_up g138_1)) W141 9 rfl (Nat.le_of_ble_eq_true rfl)
  have N141 := Fr.snoc X141 N138 ge_b101
  refine own_to ?_ st141
  refine own_to (V := T141.setTop (mkF m 406 #[sR oa, sI 11, sI vp, sI vc, sR b101] [(.int vc), (.int vp), (.int 10), (.ref oa), (.int 10), (.ref b101)])) ?_ fun t k => (by
    refine XS.aload X141.here hx rfl (hb hby own_d1_397) rfl rfl ?_
    refine XS.bipush X141.here hx rfl (hb hby own_d1_399) ?_
    refine XS.aloadN X141.here hx rfl (hb hby own_d1_401) rfl rfl ?_
    refine XS.bipush X141.here hx rfl (hb hby own_d1_402) ?_
    refine XS.iloadN X141.here hx rfl (hb hby own_d1_404) rfl ?_
    refine XS.iloadN X141.here hx rfl (hb hby own_d1_405) rfl ?_
    exact k)
  have F143 := ((F139.keep K138 List.not_mem_nil List.not_mem_nil).wr W141 (Nat.ne_of_lt (Nat.lt_of_lt_of_le hS.lt (Nat.le_of_eq g101.symm))) (Nat.ne_of_lt (Nat.lt_of_lt_of_le hS.lt2 (Nat.le_of_eq g101.symm))))
  obtain ⟨_, _, ⟨T142, L142, k142, n142⟩, -, X142, ⟨Lc142, hQ142, l142, y142, z142⟩, st142⟩ := Jvm.LawKit.callS X141 hx (y := own_mn0) hown (mvT hZ (own_i hw 30 rfl)) (mvT hZ (own_i hw 31 rfl)) (mvT hZ (own_i hw 27 rfl)) (mvT hZ (own_i hw 32 rfl)) (by decide) (backOf (W := 2) (own_rmatP10 l Z a0 hw hst [] oa ua vp vc h141 n0 Xo141 F143 hc) hZ (own_i hw 32 rfl) (own_i hw 27 rfl) (by decide) (by decide)) (g := (mkF m 406 #[sR oa, sI 11, sI vp, sI vc, sR b101] [(.int vc), (.int vp), (.int 10), (.ref oa), (.int 10), (.ref b101)])) rfl (by rw [hml]; rfl) (argsL := [(.ref oa), (.int 10), (.int vp), (.int vc)]) (rest := [(.int 10), (.ref b101)]) (lenOf own_pd2 rfl) rfl (by show 2 * 0 + _ ≤ _; exact Nat.le_of_eq rfl) (hb hby own_d1_406) (fun _ _ => ⟨rfl, e141, (by decide : 1 + 0 ≤ _), (by decide : 11 + 0 ≤ _)⟩)
  dsimp only [own_R, Pt.U, Pt.locs, Pt.cells, Pt.slots] at X142 l142 y142 z142 st142 hQ142
  subst y142 z142
  obtain ⟨oc142, hv142, N142q, K142, g142_0, g142_1⟩ := hQ142
  subst hv142
  obtain ⟨h142, e142⟩ : ∃ z, T142.heap = z := ⟨_, rfl⟩
  rw [e142] at K142
  have Xo142 := Xo141.keep K142 all0
  have KK142 := KK141.trans K142 all0
  have N142 : Fr n0 L142 := by rw [l142]; exact Fr.app N141 N142q
  refine own_to ?_ st142
  have F144 := (V141.keep K142 List.not_mem_nil)
  obtain ⟨cl145, Ar145, q145, S145, M145, H145, G145⟩ := id F144
  obtain ⟨T145, h145, X145, e145, W145, st145⟩ := stC X142 hx hZ e142 Ar145 (j := (10 : Int32)) (inb_of S145 ⟨by decide, by decide⟩) (g := (mkF m 409 #[sR oa, sI 11, sI vp, sI vc, sR b101] [(.int oc142), (.int 10), (.ref b101)])) rfl rfl (hb hby own_d1_409)
  rw [own_narC (own_up g142_1)] at W145
  have Xo145 := Xo142.wr W145 ge_b101
  have KK145 := KK142.wr W145 (Or.inr sz_b101)
  have V145 : Arv Z h145 b101 k101 .char (11 : Int32) [(.int oc102), (.int oc106), (.int oc110), (.int oc114), (.int oc118), (.int oc122), (.int oc126), (.int oc130), (.int oc134), (.int oc138), (.int oc142)] (.int (0 : Int32)) := Arv.set Ar145 q145 S145 M145 H145 G145 (own_fitC (own_up g142_1)) W145 10 rfl (Nat.le_of_ble_eq_true rfl)
  have N145 := Fr.snoc X145 N142 ge_b101
  refine own_to ?_ st145
  obtain ⟨T146, h146, X146, e146, E146, A146, D146, U146, st146⟩ := newO X145 hx hZ hown (own_i hw 55 rfl) (own_i hw 2 rfl) (own_i hw 1 rfl) e145 (g := (mkF m 410 #[sR oa, sI 11, sI vp, sI vc, sR b101] [])) rfl (hb hby own_d1_410) (by decide) (by decide)
  obtain ⟨b146, g146⟩ : ∃ z, z = h145.size := ⟨_, rfl⟩
  rw [← g146] at A146 D146 U146 st146
  have Xo146 := Xo145.ext E146
  have KK146 := KK145.ext E146
  have ge_b146 := Nat.le_trans (own_ole Xo145) (Nat.le_of_eq g146.symm)
  have sz_b146 := Nat.le_trans KK145.1 (Nat.le_of_eq g146.symm)
  have Fi146_4 : Fld Z h146 b146 "java/lang/String" "value" "[B" .null := D146 (Or.inr (own_i hw 4 rfl)) (ty := (.array .byte)) (by decide)
  have Fi146_5 : Fld Z h146 b146 "java/lang/String" "coder" "B" (.int 0) := D146 (Or.inr (own_i hw 5 rfl)) (ty := .byte) (by decide)
  refine own_to ?_ st146
  refine own_to (V := T146.setTop (mkF m 416 #[sR oa, sI 11, sI vp, sI vc, sR b101] [(.ref b101), (.ref b146), (.ref b146)])) ?_ fun t k => (by
    refine XS.dup X146.here hx rfl (hb hby own_d1_413) rfl rfl ?_
    refine XS.aload X146.here hx rfl (hb hby own_d1_414) rfl rfl ?_
    exact k)
  have F148 := (V145.ext E146)
  obtain ⟨_, _, ⟨T147, L147, k147, n147⟩, -, X147, ⟨Lc147, hQ147, l147, y147, z147⟩, st147⟩ := X146.specialBack hx (y := own_mn4) rfl hown (mvT hZ (own_i hw 56 rfl)) (mvT hZ (own_i hw 57 rfl)) (mvT hZ (own_i hw 58 rfl)) (by decide) (StrChars.Road.backV (W := 1) hZ (own_hws hw) (kI := 4) (own_i hw 2 rfl) (cs := ([oc102, oc106, oc110, oc114, oc118, oc122, oc126, oc130, oc134, oc138, oc142] : List Int32)) (bs := ([oc102, oc106, oc110, oc114, oc118, oc122, oc126, oc130, oc134, oc138, oc142] : List Int32).map (fun c => c.toInt8.toInt32)) (n := 11) ge_b146 (own_ole Xo146) A146 Fi146_4 Fi146_5 F148 (O2.ext Xo146.2) P5 rfl rfl (by decide) (by decide) (own_allS g102_1 (own_allS g106_1 (own_allS g110_1 (own_allS g114_1 (own_allS g118_1 (own_allS g122_1 (own_allS g126_1 (own_allS g130_1 (own_allS g134_1 (own_allS g138_1 (own_allS g142_1 own_all0))))))))))) rfl (by decide) (by decide)) (g := (mkF m 416 #[sR oa, sI 11, sI vp, sI vc, sR b101] [(.ref b101), (.ref b146), (.ref b146)])) rfl (by rw [hml]; rfl) (Steps.refl _) (a := b146) (argsL := [(.ref b101)]) (rest := [(.ref b146)]) (lenOf own_pd3 rfl) rfl (by show 2 * 0 + _ ≤ _; exact Nat.le_of_eq rfl) (hb hby own_d1_416) (fun _ _ => ⟨rfl, e146, (by decide : 2 + 1 ≤ _), (by decide : 15 + 11 ≤ _)⟩)
  dsimp only [own_R, Pt.U, Pt.locs, Pt.cells, Pt.slots] at X147 l147 y147 z147 st147 hQ147
  subst y147 z147
  obtain ⟨hv147, N147q, K147, gE147, gC147, u147, kb147, ua147, ub147, uc147, gV147, gK147⟩ := hQ147
  subst hv147
  obtain ⟨h147, e147⟩ : ∃ z, T147.heap = z := ⟨_, rfl⟩
  rw [e147] at K147 gE147 gC147 gV147 gK147
  have Xo147 := Xo146.keep K147 (allS ge_b146 all0)
  have KK147 := KK146.trans K147 (allS (Or.inr sz_b146) all0)
  have N147 : Fr n0 L147 := by rw [l147]; exact Fr.app N145 N147q
  have ge_u147 := Nat.le_trans (own_ole Xo146) ub147
  have sz_u147 := Nat.le_trans KK146.1 ub147
  have Fs147 : own_Str Z h147 b146 u147 ([oc102, oc106, oc110, oc114, oc118, oc122, oc126, oc130, oc134, oc138, oc142] : List Int32) := own_mkStr0 gE147 gV147 gC147 gK147 rfl (own_allS g102_1 (own_allS g106_1 (own_allS g110_1 (own_allS g114_1 (own_allS g118_1 (own_allS g122_1 (own_allS g126_1 (own_allS g130_1 (own_allS g134_1 (own_allS g138_1 (own_allS g142_1 own_all0))))))))))) (Nat.le_of_ble_eq_true rfl)
  refine own_to ?_ (fun t k => st147.trans k)
  have Fz149 : own_Str Z h147 b146 u147 ([(own_at (0 : Int32) vp vc (80 : Int32)), (own_at (1 : Int32) vp vc (114 : Int32)), (own_at (2 : Int32) vp vc (111 : Int32)), (own_at (3 : Int32) vp vc (100 : Int32)), (own_at (4 : Int32) vp vc (117 : Int32)), (own_at (5 : Int32) vp vc (99 : Int32)), (own_at (6 : Int32) vp vc (116 : Int32)), (own_at (7 : Int32) vp vc (105 : Int32)), (own_at (8 : Int32) vp vc (111 : Int32)), (own_at (9 : Int32) vp vc (110 : Int32)), vc] : List Int32) := by
    rw [← g102_0, ← g106_0, ← g110_0, ← g114_0, ← g118_0, ← g122_0, ← g126_0, ← g130_0, ← g134_0, ← g138_0, ← g142_0]
    exact Fs147
  exact own_retR X147 hx hret (by decide) rfl hlk (hb hby own_d1_419) (by rw [e147]; exact (⟨b146, u147, rfl, N147, KK147, Fz149⟩)) (by decide) (by decide)
def own_QmkD10 (Z : State) (oa : Addr) (ua : Addr) (vp : Int32) (vc : Int32) (h0 : Heap) (n0 : Nat) (v : Option Value) (h : Heap) (L : List Loc) : Prop := (∃ (oo : Addr) (ou : Addr), v = some (.ref oo) ∧ Fr n0 L ∧ Keep h0 h [] ∧ (own_Str Z h oo ou ([(own_at (0 : Int32) vp vc (68 : Int32)), (own_at (1 : Int32) vp vc (101 : Int32)), (own_at (2 : Int32) vp vc (118 : Int32)), (own_at (3 : Int32) vp vc (101 : Int32)), (own_at (4 : Int32) vp vc (108 : Int32)), (own_at (5 : Int32) vp vc (111 : Int32)), (own_at (6 : Int32) vp vc (112 : Int32)), (own_at (7 : Int32) vp vc (109 : Int32)), (own_at (8 : Int32) vp vc (101 : Int32)), (own_at (9 : Int32) vp vc (110 : Int32))] : List Int32)))
theorem own_ef_mkD10 (m : MethodId) (oa : Addr) (vp : Int32) (vc : Int32)  : entryFrame m #[(.ref oa), (.int 10), (.int vp), (.int vc)] 5 = mkF m 0 #[sR oa, sI 10, sI vp, sI vc, .unset] [] := by first | (simp [entryFrame, mkF, argsToLocals, Value.category]; done) | rfl
set_option maxRecDepth 65536 in
set_option maxHeartbeats 40000000 in
theorem own_rmmkD10 (l : Launch) (Z : State) (a0 : Array Value) (hw : ∀ d ∈ tables_1, d.before a0 Z = true) (hst : own_St Z) (ws : List Jvm.Cond) (oa : Addr) (ua : Addr) (vp : Int32) (vc : Int32) (h0 : Heap) (n0 : Nat) (X00 : Old Z n0 h0) (hS : own_Str Z h0 oa ua ([(68 : Int32), (101 : Int32), (118 : Int32), (101 : Int32), (108 : Int32), (111 : Int32), (112 : Int32), (109 : Int32), (101 : Int32), (110 : Int32), (116 : Int32)] : List Int32)) (hc : ¬ vc < 0 ∧ ¬ (255 : Int32) < vc) :
    own_MF l own_mn3 method_4_code 5 (Option.some (Jvm.ClassFile.FieldType.object "java/lang/String")) ws (own_R 5 3 24 70) #[(.ref oa), (.int 10), (.int vp), (.int vc)] Z h0 (own_QmkD10 Z oa ua vp vc h0 n0) := by
  refine own_body (plainFor_of_name own_pn0) (fun m => own_ef_mkD10 m oa vp vc ) ?_
  intro p e s m below meth c s₁ hx hby hret hlk hml hZ hown hnm hh X0 e0
  have N0 := Fr.nil n0
  have KK0 : Keep h0 h0 [] := Keep.refl h0 _
  obtain ⟨⟨G1, O2, P5⟩, ⟨G3, O4, rG3⟩, -⟩ := id hst
  refine own_to (V := s₁.setTop (mkF m 135 #[sR oa, sI 10, sI vp, sI vc, .unset] [(.int 10)])) ?_ fun t k => (by
    refine XS.iloadN X0.here hx rfl (hb hby own_d1_0) rfl ?_
    refine XS.bipush X0.here hx rfl (hb hby own_d1_1) ?_
    refine XS.icmpYes X0.here hx rfl (pc0 := 3) (pc' := 127) rfl (hb hby own_d1_3) rfl (feq ((by decide) : ¬ ((10 : Int32) = (9 : Int32)))).2 (by decide) (by decide) ?_
    refine XS.iloadN X0.here hx rfl (hb hby own_d1_127) rfl ?_
    refine XS.bipush X0.here hx rfl (hb hby own_d1_128) ?_
    refine XS.icmpNo X0.here hx rfl (hb hby own_d1_130) rfl (teq ((by decide) : (10 : Int32) = (10 : Int32))).2 ?_
    refine XS.bipush X0.here hx rfl (hb hby own_d1_133) ?_
    exact k)
  obtain ⟨T101, h101, k101, X101, e101, E101, A101, st101⟩ := newP X0 hx hZ (own_i hw 29 rfl) e0 (g := (mkF m 135 #[sR oa, sI 10, sI vp, sI vc, .unset] [(.int 10)])) rfl (hb hby own_d1_135) rfl (by decide) (cap := 10) (by decide) (by decide) (by decide) (by decide)
  obtain ⟨b101, g101⟩ : ∃ z, z = h0.size := ⟨_, rfl⟩
  rw [← g101] at A101 st101
  have Xo101 := X00.ext E101
  have KK101 := KK0.ext E101
  have ge_b101 := Nat.le_trans (own_ole X00) (Nat.le_of_eq g101.symm)
  have sz_b101 := Nat.le_trans KK0.1 (Nat.le_of_eq g101.symm)
  have V101 : Arv Z h101 b101 k101 .char (10 : Int32) [(.int 0), (.int 0), (.int 0), (.int 0), (.int 0), (.int 0), (.int 0), (.int 0), (.int 0), (.int 0)] (.int (0 : Int32)) := (Arv.new A101 (by decide)).pad (pad_rep [] (.int (0 : Int32)) 10)
  refine own_to ?_ st101
  refine own_to (V := T101.setTop (mkF m 146 #[sR oa, sI 10, sI vp, sI vc, sR b101] [(.int vc), (.int vp), (.int 0), (.ref oa), (.int 0), (.ref b101)])) ?_ fun t k => (by
    refine XS.astore X101.here hx rfl (hb hby own_d1_137) rfl rfl (l' := #[sR oa, sI 10, sI vp, sI vc, sR b101]) rfl ?_
    refine XS.aload X101.here hx rfl (hb hby own_d1_139) rfl rfl ?_
    refine XS.iconst X101.here hx rfl (hb hby own_d1_141) ?_
    refine XS.aloadN X101.here hx rfl (hb hby own_d1_142) rfl rfl ?_
    refine XS.iconst X101.here hx rfl (hb hby own_d1_143) ?_
    refine XS.iloadN X101.here hx rfl (hb hby own_d1_144) rfl ?_
    refine XS.iloadN X101.here hx rfl (hb hby own_d1_145) rfl ?_
    exact k)
  have F103 := (hS.ext E101)
  obtain ⟨_, _, ⟨T102, L102, k102, n102⟩, -, X102, ⟨Lc102, hQ102, l102, y102, z102⟩, st102⟩ := Jvm.LawKit.callS X101 hx (y := own_mn0) hown (mvT hZ (own_i hw 30 rfl)) (mvT hZ (own_i hw 31 rfl)) (mvT hZ (own_i hw 27 rfl)) (mvT hZ (own_i hw 32 rfl)) (by decide) (backOf (W := 2) (own_rmatD0 l Z a0 hw hst [] oa ua vp vc h101 n0 Xo101 F103 hc) hZ (own_i hw 32 rfl) (own_i hw 27 rfl) (by decide) (by decide)) (g := (mkF m 146 #[sR oa, sI 10, sI vp, sI vc, sR b101] [(.int vc), (.int vp), (.int 0), (.ref oa), (.int 0), (.ref b101)])) rfl (by rw [hml]; rfl) (argsL := [(.ref oa), (.int 0), (.int vp), (.int vc)]) (rest := [(.int 0), (.ref b101)]) (lenOf own_pd2 rfl) rfl (by show 2 * 0 + _ ≤ _; exact Nat.le_of_eq rfl) (hb hby own_d1_146) (fun _ _ => ⟨rfl, e101, (by decide : 1 + 0 ≤ _), (by decide : 10 + 0 ≤ _)⟩)
  dsimp only [own_R, Pt.U, Pt.locs, Pt.cells, Pt.slots] at X102 l102 y102 z102 st102 hQ102
  subst y102 z102
  obtain ⟨oc102, hv102, N102q, K102, g102_0, g102_1⟩ := hQ102
  subst hv102
  obtain ⟨h102, e102⟩ : ∃ z, T102.heap = z := ⟨_, rfl⟩
  rw [e102] at K102
  have Xo102 := Xo101.keep K102 all0
  have KK102 := KK101.trans K102 all0
  have N102 : Fr n0 L102 := by rw [l102]; exact Fr.app N0 N102q
  refine own_to ?_ st102
  have F104 := (V101.keep K102 List.not_mem_nil)
  obtain ⟨cl105, Ar105, q105, S105, M105, H105, G105⟩ := id F104
  obtain ⟨T105, h105, X105, e105, W105, st105⟩ := stC X102 hx hZ e102 Ar105 (j := (0 : Int32)) (inb_of S105 ⟨by decide, by decide⟩) (g := (mkF m 149 #[sR oa, sI 10, sI vp, sI vc, sR b101] [(.int oc102), (.int 0), (.ref b101)])) rfl rfl (hb hby own_d1_149)
  rw [own_narC (own_up g102_1)] at W105
  have Xo105 := Xo102.wr W105 ge_b101
  have KK105 := KK102.wr W105 (Or.inr sz_b101)
  have V105 : Arv Z h105 b101 k101 .char (10 : Int32) [(.int oc102), (.int 0), (.int 0), (.int 0), (.int 0), (.int 0), (.int 0), (.int 0), (.int 0), (.int 0)] (.int (0 : Int32)) := Arv.set Ar105 q105 S105 M105 H105 G105 (own_fitC (own_up g102_1)) W105 0 rfl (Nat.le_of_ble_eq_true rfl)
  have N105 := Fr.snoc X105 N102 ge_b101
  refine own_to ?_ st105
  refine own_to (V := T105.setTop (mkF m 157 #[sR oa, sI 10, sI vp, sI vc, sR b101] [(.int vc), (.int vp), (.int 1), (.ref oa), (.int 1), (.ref b101)])) ?_ fun t k => (by
    refine XS.aload X105.here hx rfl (hb hby own_d1_150) rfl rfl ?_
    refine XS.iconst X105.here hx rfl (hb hby own_d1_152) ?_
    refine XS.aloadN X105.here hx rfl (hb hby own_d1_153) rfl rfl ?_
    refine XS.iconst X105.here hx rfl (hb hby own_d1_154) ?_
    refine XS.iloadN X105.here hx rfl (hb hby own_d1_155) rfl ?_
    refine XS.iloadN X105.here hx rfl (hb hby own_d1_156) rfl ?_
    exact k)
  have F107 := ((F103.keep K102 List.not_mem_nil List.not_mem_nil).wr W105 (Nat.ne_of_lt (Nat.lt_of_lt_of_le hS.lt (Nat.le_of_eq g101.symm))) (Nat.ne_of_lt (Nat.lt_of_lt_of_le hS.lt2 (Nat.le_of_eq g101.symm))))
  obtain ⟨_, _, ⟨T106, L106, k106, n106⟩, -, X106, ⟨Lc106, hQ106, l106, y106, z106⟩, st106⟩ := Jvm.LawKit.callS X105 hx (y := own_mn0) hown (mvT hZ (own_i hw 30 rfl)) (mvT hZ (own_i hw 31 rfl)) (mvT hZ (own_i hw 27 rfl)) (mvT hZ (own_i hw 32 rfl)) (by decide) (backOf (W := 2) (own_rmatD1 l Z a0 hw hst [] oa ua vp vc h105 n0 Xo105 F107 hc) hZ (own_i hw 32 rfl) (own_i hw 27 rfl) (by decide) (by decide)) (g := (mkF m 157 #[sR oa, sI 10, sI vp, sI vc, sR b101] [(.int vc), (.int vp), (.int 1), (.ref oa), (.int 1), (.ref b101)])) rfl (by rw [hml]; rfl) (argsL := [(.ref oa), (.int 1), (.int vp), (.int vc)]) (rest := [(.int 1), (.ref b101)]) (lenOf own_pd2 rfl) rfl (by show 2 * 0 + _ ≤ _; exact Nat.le_of_eq rfl) (hb hby own_d1_157) (fun _ _ => ⟨rfl, e105, (by decide : 1 + 0 ≤ _), (by decide : 10 + 0 ≤ _)⟩)
  dsimp only [own_R, Pt.U, Pt.locs, Pt.cells, Pt.slots] at X106 l106 y106 z106 st106 hQ106
  subst y106 z106
  obtain ⟨oc106, hv106, N106q, K106, g106_0, g106_1⟩ := hQ106
  subst hv106
  obtain ⟨h106, e106⟩ : ∃ z, T106.heap = z := ⟨_, rfl⟩
  rw [e106] at K106
  have Xo106 := Xo105.keep K106 all0
  have KK106 := KK105.trans K106 all0
  have N106 : Fr n0 L106 := by rw [l106]; exact Fr.app N105 N106q
  refine own_to ?_ st106
  have F108 := (V105.keep K106 List.not_mem_nil)
  obtain ⟨cl109, Ar109, q109, S109, M109, H109, G109⟩ := id F108
  obtain ⟨T109, h109, X109, e109, W109, st109⟩ := stC X106 hx hZ e106 Ar109 (j := (1 : Int32)) (inb_of S109 ⟨by decide, by decide⟩) (g := (mkF m 160 #[sR oa, sI 10, sI vp, sI vc, sR b101] [(.int oc106), (.int 1), (.ref b101)])) rfl rfl (hb hby own_d1_160)
  rw [own_narC (own_up g106_1)] at W109
  have Xo109 := Xo106.wr W109 ge_b101
  have KK109 := KK106.wr W109 (Or.inr sz_b101)
  have V109 : Arv Z h109 b101 k101 .char (10 : Int32) [(.int oc102), (.int oc106), (.int 0), (.int 0), (.int 0), (.int 0), (.int 0), (.int 0), (.int 0), (.int 0)] (.int (0 : Int32)) := Arv.set Ar109 q109 S109 M109 H109 G109 (own_fitC (own_up g106_1)) W109 1 rfl (Nat.le_of_ble_eq_true rfl)
  have N109 := Fr.snoc X109 N106 ge_b101
  refine own_to ?_ st109
  refine own_to (V := T109.setTop (mkF m 168 #[sR oa, sI 10, sI vp, sI vc, sR b101] [(.int vc), (.int vp), (.int 2), (.ref oa), (.int 2), (.ref b101)])) ?_ fun t k => (by
    refine XS.aload X109.here hx rfl (hb hby own_d1_161) rfl rfl ?_
    refine XS.iconst X109.here hx rfl (hb hby own_d1_163) ?_
    refine XS.aloadN X109.here hx rfl (hb hby own_d1_164) rfl rfl ?_
    refine XS.iconst X109.here hx rfl (hb hby own_d1_165) ?_
    refine XS.iloadN X109.here hx rfl (hb hby own_d1_166) rfl ?_
    refine XS.iloadN X109.here hx rfl (hb hby own_d1_167) rfl ?_
    exact k)
  have F111 := ((F107.keep K106 List.not_mem_nil List.not_mem_nil).wr W109 (Nat.ne_of_lt (Nat.lt_of_lt_of_le hS.lt (Nat.le_of_eq g101.symm))) (Nat.ne_of_lt (Nat.lt_of_lt_of_le hS.lt2 (Nat.le_of_eq g101.symm))))
  obtain ⟨_, _, ⟨T110, L110, k110, n110⟩, -, X110, ⟨Lc110, hQ110, l110, y110, z110⟩, st110⟩ := Jvm.LawKit.callS X109 hx (y := own_mn0) hown (mvT hZ (own_i hw 30 rfl)) (mvT hZ (own_i hw 31 rfl)) (mvT hZ (own_i hw 27 rfl)) (mvT hZ (own_i hw 32 rfl)) (by decide) (backOf (W := 2) (own_rmatD2 l Z a0 hw hst [] oa ua vp vc h109 n0 Xo109 F111 hc) hZ (own_i hw 32 rfl) (own_i hw 27 rfl) (by decide) (by decide)) (g := (mkF m 168 #[sR oa, sI 10, sI vp, sI vc, sR b101] [(.int vc), (.int vp), (.int 2), (.ref oa), (.int 2), (.ref b101)])) rfl (by rw [hml]; rfl) (argsL := [(.ref oa), (.int 2), (.int vp), (.int vc)]) (rest := [(.int 2), (.ref b101)]) (lenOf own_pd2 rfl) rfl (by show 2 * 0 + _ ≤ _; exact Nat.le_of_eq rfl) (hb hby own_d1_168) (fun _ _ => ⟨rfl, e109, (by decide : 1 + 0 ≤ _), (by decide : 10 + 0 ≤ _)⟩)
  dsimp only [own_R, Pt.U, Pt.locs, Pt.cells, Pt.slots] at X110 l110 y110 z110 st110 hQ110
  subst y110 z110
  obtain ⟨oc110, hv110, N110q, K110, g110_0, g110_1⟩ := hQ110
  subst hv110
  obtain ⟨h110, e110⟩ : ∃ z, T110.heap = z := ⟨_, rfl⟩
  rw [e110] at K110
  have Xo110 := Xo109.keep K110 all0
  have KK110 := KK109.trans K110 all0
  have N110 : Fr n0 L110 := by rw [l110]; exact Fr.app N109 N110q
  refine own_to ?_ st110
  have F112 := (V109.keep K110 List.not_mem_nil)
  obtain ⟨cl113, Ar113, q113, S113, M113, H113, G113⟩ := id F112
  obtain ⟨T113, h113, X113, e113, W113, st113⟩ := stC X110 hx hZ e110 Ar113 (j := (2 : Int32)) (inb_of S113 ⟨by decide, by decide⟩) (g := (mkF m 171 #[sR oa, sI 10, sI vp, sI vc, sR b101] [(.int oc110), (.int 2), (.ref b101)])) rfl rfl (hb hby own_d1_171)
  rw [own_narC (own_up g110_1)] at W113
  have Xo113 := Xo110.wr W113 ge_b101
  have KK113 := KK110.wr W113 (Or.inr sz_b101)
  have V113 : Arv Z h113 b101 k101 .char (10 : Int32) [(.int oc102), (.int oc106), (.int oc110), (.int 0), (.int 0), (.int 0), (.int 0), (.int 0), (.int 0), (.int 0)] (.int (0 : Int32)) := Arv.set Ar113 q113 S113 M113 H113 G113 (own_fitC (own_up g110_1)) W113 2 rfl (Nat.le_of_ble_eq_true rfl)
  have N113 := Fr.snoc X113 N110 ge_b101
  refine own_to ?_ st113
  refine own_to (V := T113.setTop (mkF m 179 #[sR oa, sI 10, sI vp, sI vc, sR b101] [(.int vc), (.int vp), (.int 3), (.ref oa), (.int 3), (.ref b101)])) ?_ fun t k => (by
    refine XS.aload X113.here hx rfl (hb hby own_d1_172) rfl rfl ?_
    refine XS.iconst X113.here hx rfl (hb hby own_d1_174) ?_
    refine XS.aloadN X113.here hx rfl (hb hby own_d1_175) rfl rfl ?_
    refine XS.iconst X113.here hx rfl (hb hby own_d1_176) ?_
    refine XS.iloadN X113.here hx rfl (hb hby own_d1_177) rfl ?_
    refine XS.iloadN X113.here hx rfl (hb hby own_d1_178) rfl ?_
    exact k)
  have F115 := ((F111.keep K110 List.not_mem_nil List.not_mem_nil).wr W113 (Nat.ne_of_lt (Nat.lt_of_lt_of_le hS.lt (Nat.le_of_eq g101.symm))) (Nat.ne_of_lt (Nat.lt_of_lt_of_le hS.lt2 (Nat.le_of_eq g101.symm))))
  obtain ⟨_, _, ⟨T114, L114, k114, n114⟩, -, X114, ⟨Lc114, hQ114, l114, y114, z114⟩, st114⟩ := Jvm.LawKit.callS X113 hx (y := own_mn0) hown (mvT hZ (own_i hw 30 rfl)) (mvT hZ (own_i hw 31 rfl)) (mvT hZ (own_i hw 27 rfl)) (mvT hZ (own_i hw 32 rfl)) (by decide) (backOf (W := 2) (own_rmatD3 l Z a0 hw hst [] oa ua vp vc h113 n0 Xo113 F115 hc) hZ (own_i hw 32 rfl) (own_i hw 27 rfl) (by decide) (by decide)) (g := (mkF m 179 #[sR oa, sI 10, sI vp, sI vc, sR b101] [(.int vc), (.int vp), (.int 3), (.ref oa), (.int 3), (.ref b101)])) rfl (by rw [hml]; rfl) (argsL := [(.ref oa), (.int 3), (.int vp), (.int vc)]) (rest := [(.int 3), (.ref b101)]) (lenOf own_pd2 rfl) rfl (by show 2 * 0 + _ ≤ _; exact Nat.le_of_eq rfl) (hb hby own_d1_179) (fun _ _ => ⟨rfl, e113, (by decide : 1 + 0 ≤ _), (by decide : 10 + 0 ≤ _)⟩)
  dsimp only [own_R, Pt.U, Pt.locs, Pt.cells, Pt.slots] at X114 l114 y114 z114 st114 hQ114
  subst y114 z114
  obtain ⟨oc114, hv114, N114q, K114, g114_0, g114_1⟩ := hQ114
  subst hv114
  obtain ⟨h114, e114⟩ : ∃ z, T114.heap = z := ⟨_, rfl⟩
  rw [e114] at K114
  have Xo114 := Xo113.keep K114 all0
  have KK114 := KK113.trans K114 all0
  have N114 : Fr n0 L114 := by rw [l114]; exact Fr.app N113 N114q
  refine own_to ?_ st114
  have F116 := (V113.keep K114 List.not_mem_nil)
  obtain ⟨cl117, Ar117, q117, S117, M117, H117, G117⟩ := id F116
  obtain ⟨T117, h117, X117, e117, W117, st117⟩ := stC X114 hx hZ e114 Ar117 (j := (3 : Int32)) (inb_of S117 ⟨by decide, by decide⟩) (g := (mkF m 182 #[sR oa, sI 10, sI vp, sI vc, sR b101] [(.int oc114), (.int 3), (.ref b101)])) rfl rfl (hb hby own_d1_182)
  rw [own_narC (own_up g114_1)] at W117
  have Xo117 := Xo114.wr W117 ge_b101
  have KK117 := KK114.wr W117 (Or.inr sz_b101)
  have V117 : Arv Z h117 b101 k101 .char (10 : Int32) [(.int oc102), (.int oc106), (.int oc110), (.int oc114), (.int 0), (.int 0), (.int 0), (.int 0), (.int 0), (.int 0)] (.int (0 : Int32)) := Arv.set Ar117 q117 S117 M117 H117 G117 (own_fitC (own_up g114_1)) W117 3 rfl (Nat.le_of_ble_eq_true rfl)
  have N117 := Fr.snoc X117 N114 ge_b101
  refine own_to ?_ st117
  refine own_to (V := T117.setTop (mkF m 190 #[sR oa, sI 10, sI vp, sI vc, sR b101] [(.int vc), (.int vp), (.int 4), (.ref oa), (.int 4), (.ref b101)])) ?_ fun t k => (by
    refine XS.aload X117.here hx rfl (hb hby own_d1_183) rfl rfl ?_
    refine XS.iconst X117.here hx rfl (hb hby own_d1_185) ?_
    refine XS.aloadN X117.here hx rfl (hb hby own_d1_186) rfl rfl ?_
    refine XS.iconst X117.here hx rfl (hb hby own_d1_187) ?_
    refine XS.iloadN X117.here hx rfl (hb hby own_d1_188) rfl ?_
    refine XS.iloadN X117.here hx rfl (hb hby own_d1_189) rfl ?_
    exact k)
  have F119 := ((F115.keep K114 List.not_mem_nil List.not_mem_nil).wr W117 (Nat.ne_of_lt (Nat.lt_of_lt_of_le hS.lt (Nat.le_of_eq g101.symm))) (Nat.ne_of_lt (Nat.lt_of_lt_of_le hS.lt2 (Nat.le_of_eq g101.symm))))
  obtain ⟨_, _, ⟨T118, L118, k118, n118⟩, -, X118, ⟨Lc118, hQ118, l118, y118, z118⟩, st118⟩ := Jvm.LawKit.callS X117 hx (y := own_mn0) hown (mvT hZ (own_i hw 30 rfl)) (mvT hZ (own_i hw 31 rfl)) (mvT hZ (own_i hw 27 rfl)) (mvT hZ (own_i hw 32 rfl)) (by decide) (backOf (W := 2) (own_rmatD4 l Z a0 hw hst [] oa ua vp vc h117 n0 Xo117 F119 hc) hZ (own_i hw 32 rfl) (own_i hw 27 rfl) (by decide) (by decide)) (g := (mkF m 190 #[sR oa, sI 10, sI vp, sI vc, sR b101] [(.int vc), (.int vp), (.int 4), (.ref oa), (.int 4), (.ref b101)])) rfl (by rw [hml]; rfl) (argsL := [(.ref oa), (.int 4), (.int vp), (.int vc)]) (rest := [(.int 4), (.ref b101)]) (lenOf own_pd2 rfl) rfl (by show 2 * 0 + _ ≤ _; exact Nat.le_of_eq rfl) (hb hby own_d1_190) (fun _ _ => ⟨rfl, e117, (by decide : 1 + 0 ≤ _), (by decide : 10 + 0 ≤ _)⟩)
  dsimp only [own_R, Pt.U, Pt.locs, Pt.cells, Pt.slots] at X118 l118 y118 z118 st118 hQ118
  subst y118 z118
  obtain ⟨oc118, hv118, N118q, K118, g118_0, g118_1⟩ := hQ118
  subst hv118
  obtain ⟨h118, e118⟩ : ∃ z, T118.heap = z := ⟨_, rfl⟩
  rw [e118] at K118
  have Xo118 := Xo117.keep K118 all0
  have KK118 := KK117.trans K118 all0
  have N118 : Fr n0 L118 := by rw [l118]; exact Fr.app N117 N118q
  refine own_to ?_ st118
  have F120 := (V117.keep K118 List.not_mem_nil)
  obtain ⟨cl121, Ar121, q121, S121, M121, H121, G121⟩ := id F120
  obtain ⟨T121, h121, X121, e121, W121, st121⟩ := stC X118 hx hZ e118 Ar121 (j := (4 : Int32)) (inb_of S121 ⟨by decide, by decide⟩) (g := (mkF m 193 #[sR oa, sI 10, sI vp, sI vc, sR b101] [(.int oc118), (.int 4), (.ref b101)])) rfl rfl (hb hby own_d1_193)
  rw [own_narC (own_up g118_1)] at W121
  have Xo121 := Xo118.wr W121 ge_b101
  have KK121 := KK118.wr W121 (Or.inr sz_b101)
  have V121 : Arv Z h121 b101 k101 .char (10 : Int32) [(.int oc102), (.int oc106), (.int oc110), (.int oc114), (.int oc118), (.int 0), (.int 0), (.int 0), (.int 0), (.int 0)] (.int (0 : Int32)) := Arv.set Ar121 q121 S121 M121 H121 G121 (own_fitC (own_up g118_1)) W121 4 rfl (Nat.le_of_ble_eq_true rfl)
  have N121 := Fr.snoc X121 N118 ge_b101
  refine own_to ?_ st121
  refine own_to (V := T121.setTop (mkF m 201 #[sR oa, sI 10, sI vp, sI vc, sR b101] [(.int vc), (.int vp), (.int 5), (.ref oa), (.int 5), (.ref b101)])) ?_ fun t k => (by
    refine XS.aload X121.here hx rfl (hb hby own_d1_194) rfl rfl ?_
    refine XS.iconst X121.here hx rfl (hb hby own_d1_196) ?_
    refine XS.aloadN X121.here hx rfl (hb hby own_d1_197) rfl rfl ?_
    refine XS.iconst X121.here hx rfl (hb hby own_d1_198) ?_
    refine XS.iloadN X121.here hx rfl (hb hby own_d1_199) rfl ?_
    refine XS.iloadN X121.here hx rfl (hb hby own_d1_200) rfl ?_
    exact k)
  have F123 := ((F119.keep K118 List.not_mem_nil List.not_mem_nil).wr W121 (Nat.ne_of_lt (Nat.lt_of_lt_of_le hS.lt (Nat.le_of_eq g101.symm))) (Nat.ne_of_lt (Nat.lt_of_lt_of_le hS.lt2 (Nat.le_of_eq g101.symm))))
  obtain ⟨_, _, ⟨T122, L122, k122, n122⟩, -, X122, ⟨Lc122, hQ122, l122, y122, z122⟩, st122⟩ := Jvm.LawKit.callS X121 hx (y := own_mn0) hown (mvT hZ (own_i hw 30 rfl)) (mvT hZ (own_i hw 31 rfl)) (mvT hZ (own_i hw 27 rfl)) (mvT hZ (own_i hw 32 rfl)) (by decide) (backOf (W := 2) (own_rmatD5 l Z a0 hw hst [] oa ua vp vc h121 n0 Xo121 F123 hc) hZ (own_i hw 32 rfl) (own_i hw 27 rfl) (by decide) (by decide)) (g := (mkF m 201 #[sR oa, sI 10, sI vp, sI vc, sR b101] [(.int vc), (.int vp), (.int 5), (.ref oa), (.int 5), (.ref b101)])) rfl (by rw [hml]; rfl) (argsL := [(.ref oa), (.int 5), (.int vp), (.int vc)]) (rest := [(.int 5), (.ref b101)]) (lenOf own_pd2 rfl) rfl (by show 2 * 0 + _ ≤ _; exact Nat.le_of_eq rfl) (hb hby own_d1_201) (fun _ _ => ⟨rfl, e121, (by decide : 1 + 0 ≤ _), (by decide : 10 + 0 ≤ _)⟩)
  dsimp only [own_R, Pt.U, Pt.locs, Pt.cells, Pt.slots] at X122 l122 y122 z122 st122 hQ122
  subst y122 z122
  obtain ⟨oc122, hv122, N122q, K122, g122_0, g122_1⟩ := hQ122
  subst hv122
  obtain ⟨h122, e122⟩ : ∃ z, T122.heap = z := ⟨_, rfl⟩
  rw [e122] at K122
  have Xo122 := Xo121.keep K122 all0
  have KK122 := KK121.trans K122 all0
  have N122 : Fr n0 L122 := by rw [l122]; exact Fr.app N121 N122q
  refine own_to ?_ st122
  have F124 := (V121.keep K122 List.not_mem_nil)
  obtain ⟨cl125, Ar125, q125, S125, M125, H125, G125⟩ := id F124
  obtain ⟨T125, h125, X125, e125, W125, st125⟩ := stC X122 hx hZ e122 Ar125 (j := (5 : Int32)) (inb_of S125 ⟨by decide, by decide⟩) (g := (mkF m 204 #[sR oa, sI 10, sI vp, sI vc, sR b101] [(.int oc122), (.int 5), (.ref b101)])) rfl rfl (hb hby own_d1_204)
  rw [own_narC (own_up g122_1)] at W125
  have Xo125 := Xo122.wr W125 ge_b101
  have KK125 := KK122.wr W125 (Or.inr sz_b101)
  have V125 : Arv Z h125 b101 k101 .char (10 : Int32) [(.int oc102), (.int oc106), (.int oc110), (.int oc114), (.int oc118), (.int oc122), (.int 0), (.int 0), (.int 0), (.int 0)] (.int (0 : Int32)) := Arv.set Ar125 q125 S125 M125 H125 G125 (own_fitC (own_up g122_1)) W125 5 rfl (Nat.le_of_ble_eq_true rfl)
  have N125 := Fr.snoc X125 N122 ge_b101
  refine own_to ?_ st125
  refine own_to (V := T125.setTop (mkF m 214 #[sR oa, sI 10, sI vp, sI vc, sR b101] [(.int vc), (.int vp), (.int 6), (.ref oa), (.int 6), (.ref b101)])) ?_ fun t k => (by
    refine XS.aload X125.here hx rfl (hb hby own_d1_205) rfl rfl ?_
    refine XS.bipush X125.here hx rfl (hb hby own_d1_207) ?_
    refine XS.aloadN X125.here hx rfl (hb hby own_d1_209) rfl rfl ?_
    refine XS.bipush X125.here hx rfl (hb hby own_d1_210) ?_
    refine XS.iloadN X125.here hx rfl (hb hby own_d1_212) rfl ?_
    refine XS.iloadN X125.here hx rfl (hb hby own_d1_213) rfl ?_
    exact k)
  have F127 := ((F123.keep K122 List.not_mem_nil List.not_mem_nil).wr W125 (Nat.ne_of_lt (Nat.lt_of_lt_of_le hS.lt (Nat.le_of_eq g101.symm))) (Nat.ne_of_lt (Nat.lt_of_lt_of_le hS.lt2 (Nat.le_of_eq g101.symm))))
  obtain ⟨_, _, ⟨T126, L126, k126, n126⟩, -, X126, ⟨Lc126, hQ126, l126, y126, z126⟩, st126⟩ := Jvm.LawKit.callS X125 hx (y := own_mn0) hown (mvT hZ (own_i hw 30 rfl)) (mvT hZ (own_i hw 31 rfl)) (mvT hZ (own_i hw 27 rfl)) (mvT hZ (own_i hw 32 rfl)) (by decide) (backOf (W := 2) (own_rmatD6 l Z a0 hw hst [] oa ua vp vc h125 n0 Xo125 F127 hc) hZ (own_i hw 32 rfl) (own_i hw 27 rfl) (by decide) (by decide)) (g := (mkF m 214 #[sR oa, sI 10, sI vp, sI vc, sR b101] [(.int vc), (.int vp), (.int 6), (.ref oa), (.int 6), (.ref b101)])) rfl (by rw [hml]; rfl) (argsL := [(.ref oa), (.int 6), (.int vp), (.int vc)]) (rest := [(.int 6), (.ref b101)]) (lenOf own_pd2 rfl) rfl (by show 2 * 0 + _ ≤ _; exact Nat.le_of_eq rfl) (hb hby own_d1_214) (fun _ _ => ⟨rfl, e125, (by decide : 1 + 0 ≤ _), (by decide : 10 + 0 ≤ _)⟩)
  dsimp only [own_R, Pt.U, Pt.locs, Pt.cells, Pt.slots] at X126 l126 y126 z126 st126 hQ126
  subst y126 z126
  obtain ⟨oc126, hv126, N126q, K126, g126_0, g126_1⟩ := hQ126
  subst hv126
  obtain ⟨h126, e126⟩ : ∃ z, T126.heap = z := ⟨_, rfl⟩
  rw [e126] at K126
  have Xo126 := Xo125.keep K126 all0
  have KK126 := KK125.trans K126 all0
  have N126 : Fr n0 L126 := by rw [l126]; exact Fr.app N125 N126q
  refine own_to ?_ st126
  have F128 := (V125.keep K126 List.not_mem_nil)
  obtain ⟨cl129, Ar129, q129, S129, M129, H129, G129⟩ := id F128
  obtain ⟨T129, h129, X129, e129, W129, st129⟩ := stC X126 hx hZ e126 Ar129 (j := (6 : Int32)) (inb_of S129 ⟨by decide, by decide⟩) (g := (mkF m 217 #[sR oa, sI 10, sI vp, sI vc, sR b101] [(.int oc126), (.int 6), (.ref b101)])) rfl rfl (hb hby own_d1_217)
  rw [own_narC (own_up g126_1)] at W129
  have Xo129 := Xo126.wr W129 ge_b101
  have KK129 := KK126.wr W129 (Or.inr sz_b101)
  have V129 : Arv Z h129 b101 k101 .char (10 : Int32) [(.int oc102), (.int oc106), (.int oc110), (.int oc114), (.int oc118), (.int oc122), (.int oc126), (.int 0), (.int 0), (.int 0)] (.int (0 : Int32)) := Arv.set Ar129 q129 S129 M129 H129 G129 (own_fitC (own_up g126_1)) W129 6 rfl (Nat.le_of_ble_eq_true rfl)
  have N129 := Fr.snoc X129 N126 ge_b101
  refine own_to ?_ st129
  refine own_to (V := T129.setTop (mkF m 227 #[sR oa, sI 10, sI vp, sI vc, sR b101] [(.int vc), (.int vp), (.int 7), (.ref oa), (.int 7), (.ref b101)])) ?_ fun t k => (by
    refine XS.aload X129.here hx rfl (hb hby own_d1_218) rfl rfl ?_
    refine XS.bipush X129.here hx rfl (hb hby own_d1_220) ?_
    refine XS.aloadN X129.here hx rfl (hb hby own_d1_222) rfl rfl ?_
    refine XS.bipush X129.here hx rfl (hb hby own_d1_223) ?_
    refine XS.iloadN X129.here hx rfl (hb hby own_d1_225) rfl ?_
    refine XS.iloadN X129.here hx rfl (hb hby own_d1_226) rfl ?_
    exact k)
  have F131 := ((F127.keep K126 List.not_mem_nil List.not_mem_nil).wr W129 (Nat.ne_of_lt (Nat.lt_of_lt_of_le hS.lt (Nat.le_of_eq g101.symm))) (Nat.ne_of_lt (Nat.lt_of_lt_of_le hS.lt2 (Nat.le_of_eq g101.symm))))
  obtain ⟨_, _, ⟨T130, L130, k130, n130⟩, -, X130, ⟨Lc130, hQ130, l130, y130, z130⟩, st130⟩ := Jvm.LawKit.callS X129 hx (y := own_mn0) hown (mvT hZ (own_i hw 30 rfl)) (mvT hZ (own_i hw 31 rfl)) (mvT hZ (own_i hw 27 rfl)) (mvT hZ (own_i hw 32 rfl)) (by decide) (backOf (W := 2) (own_rmatD7 l Z a0 hw hst [] oa ua vp vc h129 n0 Xo129 F131 hc) hZ (own_i hw 32 rfl) (own_i hw 27 rfl) (by decide) (by decide)) (g := (mkF m 227 #[sR oa, sI 10, sI vp, sI vc, sR b101] [(.int vc), (.int vp), (.int 7), (.ref oa), (.int 7), (.ref b101)])) rfl (by rw [hml]; rfl) (argsL := [(.ref oa), (.int 7), (.int vp), (.int vc)]) (rest := [(.int 7), (.ref b101)]) (lenOf own_pd2 rfl) rfl (by show 2 * 0 + _ ≤ _; exact Nat.le_of_eq rfl) (hb hby own_d1_227) (fun _ _ => ⟨rfl, e129, (by decide : 1 + 0 ≤ _), (by decide : 10 + 0 ≤ _)⟩)
  dsimp only [own_R, Pt.U, Pt.locs, Pt.cells, Pt.slots] at X130 l130 y130 z130 st130 hQ130
  subst y130 z130
  obtain ⟨oc130, hv130, N130q, K130, g130_0, g130_1⟩ := hQ130
  subst hv130
  obtain ⟨h130, e130⟩ : ∃ z, T130.heap = z := ⟨_, rfl⟩
  rw [e130] at K130
  have Xo130 := Xo129.keep K130 all0
  have KK130 := KK129.trans K130 all0
  have N130 : Fr n0 L130 := by rw [l130]; exact Fr.app N129 N130q
  refine own_to ?_ st130
  have F132 := (V129.keep K130 List.not_mem_nil)
  obtain ⟨cl133, Ar133, q133, S133, M133, H133, G133⟩ := id F132
  obtain ⟨T133, h133, X133, e133, W133, st133⟩ := stC X130 hx hZ e130 Ar133 (j := (7 : Int32)) (inb_of S133 ⟨by decide, by decide⟩) (g := (mkF m 230 #[sR oa, sI 10, sI vp, sI vc, sR b101] [(.int oc130), (.int 7), (.ref b101)])) rfl rfl (hb hby own_d1_230)
  rw [own_narC (own_up g130_1)] at W133
  have Xo133 := Xo130.wr W133 ge_b101
  have KK133 := KK130.wr W133 (Or.inr sz_b101)
  have V133 : Arv Z h133 b101 k101 .char (10 : Int32) [(.int oc102), (.int oc106), (.int oc110), (.int oc114), (.int oc118), (.int oc122), (.int oc126), (.int oc130), (.int 0), (.int 0)] (.int (0 : Int32)) := Arv.set Ar133 q133 S133 M133 H133 G133 (own_fitC (own_up g130_1)) W133 7 rfl (Nat.le_of_ble_eq_true rfl)
  have N133 := Fr.snoc X133 N130 ge_b101
  refine own_to ?_ st133
  refine own_to (V := T133.setTop (mkF m 240 #[sR oa, sI 10, sI vp, sI vc, sR b101] [(.int vc), (.int vp), (.int 8), (.ref oa), (.int 8), (.ref b101)])) ?_ fun t k => (by
    refine XS.aload X133.here hx rfl (hb hby own_d1_231) rfl rfl ?_
    refine XS.bipush X133.here hx rfl (hb hby own_d1_233) ?_
    refine XS.aloadN X133.here hx rfl (hb hby own_d1_235) rfl rfl ?_
    refine XS.bipush X133.here hx rfl (hb hby own_d1_236) ?_
    refine XS.iloadN X133.here hx rfl (hb hby own_d1_238) rfl ?_
    refine XS.iloadN X133.here hx rfl (hb hby own_d1_239) rfl ?_
    exact k)
  have F135 := ((F131.keep K130 List.not_mem_nil List.not_mem_nil).wr W133 (Nat.ne_of_lt (Nat.lt_of_lt_of_le hS.lt (Nat.le_of_eq g101.symm))) (Nat.ne_of_lt (Nat.lt_of_lt_of_le hS.lt2 (Nat.le_of_eq g101.symm))))
  obtain ⟨_, _, ⟨T134, L134, k134, n134⟩, -, X134, ⟨Lc134, hQ134, l134, y134, z134⟩, st134⟩ := Jvm.LawKit.callS X133 hx (y := own_mn0) hown (mvT hZ (own_i hw 30 rfl)) (mvT hZ (own_i hw 31 rfl)) (mvT hZ (own_i hw 27 rfl)) (mvT hZ (own_i hw 32 rfl)) (by decide) (backOf (W := 2) (own_rmatD8 l Z a0 hw hst [] oa ua vp vc h133 n0 Xo133 F135 hc) hZ (own_i hw 32 rfl) (own_i hw 27 rfl) (by decide) (by decide)) (g := (mkF m 240 #[sR oa, sI 10, sI vp, sI vc, sR b101] [(.int vc), (.int vp), (.int 8), (.ref oa), (.int 8), (.ref b101)])) rfl (by rw [hml]; rfl) (argsL := [(.ref oa), (.int 8), (.int vp), (.int vc)]) (rest := [(.int 8), (.ref b101)]) (lenOf own_pd2 rfl) rfl (by show 2 * 0 + _ ≤ _; exact Nat.le_of_eq rfl) (hb hby own_d1_240) (fun _ _ => ⟨rfl, e133, (by decide : 1 + 0 ≤ _), (by decide : 10 + 0 ≤ _)⟩)
  dsimp only [own_R, Pt.U, Pt.locs, Pt.cells, Pt.slots] at X134 l134 y134 z134 st134 hQ134
  subst y134 z134
  obtain ⟨oc134, hv134, N134q, K134, g134_0, g134_1⟩ := hQ134
  subst hv134
  obtain ⟨h134, e134⟩ : ∃ z, T134.heap = z := ⟨_, rfl⟩
  rw [e134] at K134
  have Xo134 := Xo133.keep K134 all0
  have KK134 := KK133.trans K134 all0
  have N134 : Fr n0 L134 := by rw [l134]; exact Fr.app N133 N134q
  refine own_to ?_ st134
  have F136 := (V133.keep K134 List.not_mem_nil)
  obtain ⟨cl137, Ar137, q137, S137, M137, H137, G137⟩ := id F136
  obtain ⟨T137, h137, X137, e137, W137, st137⟩ := stC X134 hx hZ e134 Ar137 (j := (8 : Int32)) (inb_of S137 ⟨by decide, by decide⟩) (g := (mkF m 243 #[sR oa, sI 10, sI vp, sI vc, sR b101] [(.int oc134), (.int 8), (.ref b101)])) rfl rfl (hb hby own_d1_243)
  rw [own_narC (own_up g134_1)] at W137
  have Xo137 := Xo134.wr W137 ge_b101
  have KK137 := KK134.wr W137 (Or.inr sz_b101)
  have V137 : Arv Z h137 b101 k101 .char (10 : Int32) [(.int oc102), (.int oc106), (.int oc110), (.int oc114), (.int oc118), (.int oc122), (.int oc126), (.int oc130), (.int oc134), (.int 0)] (.int (0 : Int32)) := Arv.set Ar137 q137 S137 M137 H137 G137 (own_fitC (own_up g134_1)) W137 8 rfl (Nat.le_of_ble_eq_true rfl)
  have N137 := Fr.snoc X137 N134 ge_b101
  refine own_to ?_ st137
  refine own_to (V := T137.setTop (mkF m 253 #[sR oa, sI 10, sI vp, sI vc, sR b101] [(.int vc), (.int vp), (.int 9), (.ref oa), (.int 9), (.ref b101)])) ?_ fun t k => (by
    refine XS.aload X137.here hx rfl (hb hby own_d1_244) rfl rfl ?_
    refine XS.bipush X137.here hx rfl (hb hby own_d1_246) ?_
    refine XS.aloadN X137.here hx rfl (hb hby own_d1_248) rfl rfl ?_
    refine XS.bipush X137.here hx rfl (hb hby own_d1_249) ?_
    refine XS.iloadN X137.here hx rfl (hb hby own_d1_251) rfl ?_
    refine XS.iloadN X137.here hx rfl (hb hby own_d1_252) rfl ?_
    exact k)
  have F139 := ((F135.keep K134 List.not_mem_nil List.not_mem_nil).wr W137 (Nat.ne_of_lt (Nat.lt_of_lt_of_le hS.lt (Nat.le_of_eq g101.symm))) (Nat.ne_of_lt (Nat.lt_of_lt_of_le hS.lt2 (Nat.le_of_eq g101.symm))))
  obtain ⟨_, _, ⟨T138, L138, k138, n138⟩, -, X138, ⟨Lc138, hQ138, l138, y138, z138⟩, st138⟩ := Jvm.LawKit.callS X137 hx (y := own_mn0) hown (mvT hZ (own_i hw 30 rfl)) (mvT hZ (own_i hw 31 rfl)) (mvT hZ (own_i hw 27 rfl)) (mvT hZ (own_i hw 32 rfl)) (by decide) (backOf (W := 2) (own_rmatD9 l Z a0 hw hst [] oa ua vp vc h137 n0 Xo137 F139 hc) hZ (own_i hw 32 rfl) (own_i hw 27 rfl) (by decide) (by decide)) (g := (mkF m 253 #[sR oa, sI 10, sI vp, sI vc, sR b101] [(.int vc), (.int vp), (.int 9), (.ref oa), (.int 9), (.ref b101)])) rfl (by rw [hml]; rfl) (argsL := [(.ref oa), (.int 9), (.int vp), (.int vc)]) (rest := [(.int 9), (.ref b101)]) (lenOf own_pd2 rfl) rfl (by show 2 * 0 + _ ≤ _; exact Nat.le_of_eq rfl) (hb hby own_d1_253) (fun _ _ => ⟨rfl, e137, (by decide : 1 + 0 ≤ _), (by decide : 10 + 0 ≤ _)⟩)
  dsimp only [own_R, Pt.U, Pt.locs, Pt.cells, Pt.slots] at X138 l138 y138 z138 st138 hQ138
  subst y138 z138
  obtain ⟨oc138, hv138, N138q, K138, g138_0, g138_1⟩ := hQ138
  subst hv138
  obtain ⟨h138, e138⟩ : ∃ z, T138.heap = z := ⟨_, rfl⟩
  rw [e138] at K138
  have Xo138 := Xo137.keep K138 all0
  have KK138 := KK137.trans K138 all0
  have N138 : Fr n0 L138 := by rw [l138]; exact Fr.app N137 N138q
  refine own_to ?_ st138
  have F140 := (V137.keep K138 List.not_mem_nil)
  obtain ⟨cl141, Ar141, q141, S141, M141, H141, G141⟩ := id F140
  obtain ⟨T141, h141, X141, e141, W141, st141⟩ := stC X138 hx hZ e138 Ar141 (j := (9 : Int32)) (inb_of S141 ⟨by decide, by decide⟩) (g := (mkF m 256 #[sR oa, sI 10, sI vp, sI vc, sR b101] [(.int oc138), (.int 9), (.ref b101)])) rfl rfl (hb hby own_d1_256)
  rw [own_narC (own_up g138_1)] at W141
  have Xo141 := Xo138.wr W141 ge_b101
  have KK141 := KK138.wr W141 (Or.inr sz_b101)
  have V141 : Arv Z h141 b101 k101 .char (10 : Int32) [(.int oc102), (.int oc106), (.int oc110), (.int oc114), (.int oc118), (.int oc122), (.int oc126), (.int oc130), (.int oc134), (.int oc138)] (.int (0 : Int32)) := Arv.set Ar141 q141 S141 M141 H141 G141 (own_fitC (own_up g138_1)) W141 9 rfl (Nat.le_of_ble_eq_true rfl)
  have N141 := Fr.snoc X141 N138 ge_b101
  refine own_to ?_ st141
  obtain ⟨T142, h142, X142, e142, E142, A142, D142, U142, st142⟩ := newO X141 hx hZ hown (own_i hw 55 rfl) (own_i hw 2 rfl) (own_i hw 1 rfl) e141 (g := (mkF m 257 #[sR oa, sI 10, sI vp, sI vc, sR b101] [])) rfl (hb hby own_d1_257) (by decide) (by decide)
  obtain ⟨b142, g142⟩ : ∃ z, z = h141.size := ⟨_, rfl⟩
  rw [← g142] at A142 D142 U142 st142
  have Xo142 := Xo141.ext E142
  have KK142 := KK141.ext E142
  have ge_b142 := Nat.le_trans (own_ole Xo141) (Nat.le_of_eq g142.symm)
  have sz_b142 := Nat.le_trans KK141.1 (Nat.le_of_eq g142.symm)
  have Fi142_4 : Fld Z h142 b142 "java/lang/String" "value" "[B" .null := D142 (Or.inr (own_i hw 4 rfl)) (ty := (.array .byte)) (by decide)
  have Fi142_5 : Fld Z h142 b142 "java/lang/String" "coder" "B" (.int 0) := D142 (Or.inr (own_i hw 5 rfl)) (ty := .byte) (by decide)
  refine own_to ?_ st142
  refine own_to (V := T142.setTop (mkF m 263 #[sR oa, sI 10, sI vp, sI vc, sR b101] [(.ref b101), (.ref b142), (.ref b142)])) ?_ fun t k => (by
    refine XS.dup X142.here hx rfl (hb hby own_d1_260) rfl rfl ?_
    refine XS.aload X142.here hx rfl (hb hby own_d1_261) rfl rfl ?_
    exact k)
  have F144 := (V141.ext E142)
  obtain ⟨_, _, ⟨T143, L143, k143, n143⟩, -, X143, ⟨Lc143, hQ143, l143, y143, z143⟩, st143⟩ := X142.specialBack hx (y := own_mn4) rfl hown (mvT hZ (own_i hw 56 rfl)) (mvT hZ (own_i hw 57 rfl)) (mvT hZ (own_i hw 58 rfl)) (by decide) (StrChars.Road.backV (W := 1) hZ (own_hws hw) (kI := 4) (own_i hw 2 rfl) (cs := ([oc102, oc106, oc110, oc114, oc118, oc122, oc126, oc130, oc134, oc138] : List Int32)) (bs := ([oc102, oc106, oc110, oc114, oc118, oc122, oc126, oc130, oc134, oc138] : List Int32).map (fun c => c.toInt8.toInt32)) (n := 10) ge_b142 (own_ole Xo142) A142 Fi142_4 Fi142_5 F144 (O2.ext Xo142.2) P5 rfl rfl (by decide) (by decide) (own_allS g102_1 (own_allS g106_1 (own_allS g110_1 (own_allS g114_1 (own_allS g118_1 (own_allS g122_1 (own_allS g126_1 (own_allS g130_1 (own_allS g134_1 (own_allS g138_1 own_all0)))))))))) rfl (by decide) (by decide)) (g := (mkF m 263 #[sR oa, sI 10, sI vp, sI vc, sR b101] [(.ref b101), (.ref b142), (.ref b142)])) rfl (by rw [hml]; rfl) (Steps.refl _) (a := b142) (argsL := [(.ref b101)]) (rest := [(.ref b142)]) (lenOf own_pd3 rfl) rfl (by show 2 * 0 + _ ≤ _; exact Nat.le_of_eq rfl) (hb hby own_d1_263) (fun _ _ => ⟨rfl, e142, (by decide : 2 + 1 ≤ _), (by decide : 14 + 10 ≤ _)⟩)
  dsimp only [own_R, Pt.U, Pt.locs, Pt.cells, Pt.slots] at X143 l143 y143 z143 st143 hQ143
  subst y143 z143
  obtain ⟨hv143, N143q, K143, gE143, gC143, u143, kb143, ua143, ub143, uc143, gV143, gK143⟩ := hQ143
  subst hv143
  obtain ⟨h143, e143⟩ : ∃ z, T143.heap = z := ⟨_, rfl⟩
  rw [e143] at K143 gE143 gC143 gV143 gK143
  have Xo143 := Xo142.keep K143 (allS ge_b142 all0)
  have KK143 := KK142.trans K143 (allS (Or.inr sz_b142) all0)
  have N143 : Fr n0 L143 := by rw [l143]; exact Fr.app N141 N143q
  have ge_u143 := Nat.le_trans (own_ole Xo142) ub143
  have sz_u143 := Nat.le_trans KK142.1 ub143
  have Fs143 : own_Str Z h143 b142 u143 ([oc102, oc106, oc110, oc114, oc118, oc122, oc126, oc130, oc134, oc138] : List Int32) := own_mkStr0 gE143 gV143 gC143 gK143 rfl (own_allS g102_1 (own_allS g106_1 (own_allS g110_1 (own_allS g114_1 (own_allS g118_1 (own_allS g122_1 (own_allS g126_1 (own_allS g130_1 (own_allS g134_1 (own_allS g138_1 own_all0)))))))))) (Nat.le_of_ble_eq_true rfl)
  refine own_to ?_ (fun t k => st143.trans k)
  have Fz145 : own_Str Z h143 b142 u143 ([(own_at (0 : Int32) vp vc (68 : Int32)), (own_at (1 : Int32) vp vc (101 : Int32)), (own_at (2 : Int32) vp vc (118 : Int32)), (own_at (3 : Int32) vp vc (101 : Int32)), (own_at (4 : Int32) vp vc (108 : Int32)), (own_at (5 : Int32) vp vc (111 : Int32)), (own_at (6 : Int32) vp vc (112 : Int32)), (own_at (7 : Int32) vp vc (109 : Int32)), (own_at (8 : Int32) vp vc (101 : Int32)), (own_at (9 : Int32) vp vc (110 : Int32))] : List Int32) := by
    rw [← g102_0, ← g106_0, ← g110_0, ← g114_0, ← g118_0, ← g122_0, ← g126_0, ← g130_0, ← g134_0, ← g138_0]
    exact Fs143
  exact own_retR X143 hx hret (by decide) rfl hlk (hb hby own_d1_266) (by rw [e143]; exact (⟨b142, u143, rfl, N143, KK143, Fz145⟩)) (by decide) (by decide)
def own_QmkD11 (Z : State) (oa : Addr) (ua : Addr) (vp : Int32) (vc : Int32) (h0 : Heap) (n0 : Nat) (v : Option Value) (h : Heap) (L : List Loc) : Prop := (∃ (oo : Addr) (ou : Addr), v = some (.ref oo) ∧ Fr n0 L ∧ Keep h0 h [] ∧ (own_Str Z h oo ou ([(own_at (0 : Int32) vp vc (68 : Int32)), (own_at (1 : Int32) vp vc (101 : Int32)), (own_at (2 : Int32) vp vc (118 : Int32)), (own_at (3 : Int32) vp vc (101 : Int32)), (own_at (4 : Int32) vp vc (108 : Int32)), (own_at (5 : Int32) vp vc (111 : Int32)), (own_at (6 : Int32) vp vc (112 : Int32)), (own_at (7 : Int32) vp vc (109 : Int32)), (own_at (8 : Int32) vp vc (101 : Int32)), (own_at (9 : Int32) vp vc (110 : Int32)), (own_at (10 : Int32) vp vc (116 : Int32))] : List Int32)))
theorem own_ef_mkD11 (m : MethodId) (oa : Addr) (vp : Int32) (vc : Int32)  : entryFrame m #[(.ref oa), (.int 11), (.int vp), (.int vc)] 5 = mkF m 0 #[sR oa, sI 11, sI vp, sI vc, .unset] [] := by first | (simp [entryFrame, mkF, argsToLocals, Value.category]; done) | rfl
set_option maxRecDepth 65536 in
set_option maxHeartbeats 40000000 in
theorem own_rmmkD11 (l : Launch) (Z : State) (a0 : Array Value) (hw : ∀ d ∈ tables_1, d.before a0 Z = true) (hst : own_St Z) (ws : List Jvm.Cond) (oa : Addr) (ua : Addr) (vp : Int32) (vc : Int32) (h0 : Heap) (n0 : Nat) (X00 : Old Z n0 h0) (hS : own_Str Z h0 oa ua ([(68 : Int32), (101 : Int32), (118 : Int32), (101 : Int32), (108 : Int32), (111 : Int32), (112 : Int32), (109 : Int32), (101 : Int32), (110 : Int32), (116 : Int32)] : List Int32)) (hc : ¬ vc < 0 ∧ ¬ (255 : Int32) < vc) :
    own_MF l own_mn3 method_4_code 5 (Option.some (Jvm.ClassFile.FieldType.object "java/lang/String")) ws (own_R 5 3 26 70) #[(.ref oa), (.int 11), (.int vp), (.int vc)] Z h0 (own_QmkD11 Z oa ua vp vc h0 n0) := by
  refine own_body (plainFor_of_name own_pn0) (fun m => own_ef_mkD11 m oa vp vc ) ?_
  intro p e s m below meth c s₁ hx hby hret hlk hml hZ hown hnm hh X0 e0
  have N0 := Fr.nil n0
  have KK0 : Keep h0 h0 [] := Keep.refl h0 _
  obtain ⟨⟨G1, O2, P5⟩, ⟨G3, O4, rG3⟩, -⟩ := id hst
  refine own_to (V := s₁.setTop (mkF m 275 #[sR oa, sI 11, sI vp, sI vc, .unset] [(.int 11)])) ?_ fun t k => (by
    refine XS.iloadN X0.here hx rfl (hb hby own_d1_0) rfl ?_
    refine XS.bipush X0.here hx rfl (hb hby own_d1_1) ?_
    refine XS.icmpYes X0.here hx rfl (pc0 := 3) (pc' := 127) rfl (hb hby own_d1_3) rfl (feq ((by decide) : ¬ ((11 : Int32) = (9 : Int32)))).2 (by decide) (by decide) ?_
    refine XS.iloadN X0.here hx rfl (hb hby own_d1_127) rfl ?_
    refine XS.bipush X0.here hx rfl (hb hby own_d1_128) ?_
    refine XS.icmpYes X0.here hx rfl (pc0 := 130) (pc' := 267) rfl (hb hby own_d1_130) rfl (feq ((by decide) : ¬ ((11 : Int32) = (10 : Int32)))).2 (by decide) (by decide) ?_
    refine XS.iloadN X0.here hx rfl (hb hby own_d1_267) rfl ?_
    refine XS.bipush X0.here hx rfl (hb hby own_d1_268) ?_
    refine XS.icmpNo X0.here hx rfl (hb hby own_d1_270) rfl (teq ((by decide) : (11 : Int32) = (11 : Int32))).2 ?_
    refine XS.bipush X0.here hx rfl (hb hby own_d1_273) ?_
    exact k)
  obtain ⟨T101, h101, k101, X101, e101, E101, A101, st101⟩ := newP X0 hx hZ (own_i hw 29 rfl) e0 (g := (mkF m 275 #[sR oa, sI 11, sI vp, sI vc, .unset] [(.int 11)])) rfl (hb hby own_d1_275) rfl (by decide) (cap := 11) (by decide) (by decide) (by decide) (by decide)
  obtain ⟨b101, g101⟩ : ∃ z, z = h0.size := ⟨_, rfl⟩
  rw [← g101] at A101 st101
  have Xo101 := X00.ext E101
  have KK101 := KK0.ext E101
  have ge_b101 := Nat.le_trans (own_ole X00) (Nat.le_of_eq g101.symm)
  have sz_b101 := Nat.le_trans KK0.1 (Nat.le_of_eq g101.symm)
  have V101 : Arv Z h101 b101 k101 .char (11 : Int32) [(.int 0), (.int 0), (.int 0), (.int 0), (.int 0), (.int 0), (.int 0), (.int 0), (.int 0), (.int 0), (.int 0)] (.int (0 : Int32)) := (Arv.new A101 (by decide)).pad (pad_rep [] (.int (0 : Int32)) 11)
  refine own_to ?_ st101
  refine own_to (V := T101.setTop (mkF m 286 #[sR oa, sI 11, sI vp, sI vc, sR b101] [(.int vc), (.int vp), (.int 0), (.ref oa), (.int 0), (.ref b101)])) ?_ fun t k => (by
    refine XS.astore X101.here hx rfl (hb hby own_d1_277) rfl rfl (l' := #[sR oa, sI 11, sI vp, sI vc, sR b101]) rfl ?_
    refine XS.aload X101.here hx rfl (hb hby own_d1_279) rfl rfl ?_
    refine XS.iconst X101.here hx rfl (hb hby own_d1_281) ?_
    refine XS.aloadN X101.here hx rfl (hb hby own_d1_282) rfl rfl ?_
    refine XS.iconst X101.here hx rfl (hb hby own_d1_283) ?_
    refine XS.iloadN X101.here hx rfl (hb hby own_d1_284) rfl ?_
    refine XS.iloadN X101.here hx rfl (hb hby own_d1_285) rfl ?_
    exact k)
  have F103 := (hS.ext E101)
  obtain ⟨_, _, ⟨T102, L102, k102, n102⟩, -, X102, ⟨Lc102, hQ102, l102, y102, z102⟩, st102⟩ := Jvm.LawKit.callS X101 hx (y := own_mn0) hown (mvT hZ (own_i hw 30 rfl)) (mvT hZ (own_i hw 31 rfl)) (mvT hZ (own_i hw 27 rfl)) (mvT hZ (own_i hw 32 rfl)) (by decide) (backOf (W := 2) (own_rmatD0 l Z a0 hw hst [] oa ua vp vc h101 n0 Xo101 F103 hc) hZ (own_i hw 32 rfl) (own_i hw 27 rfl) (by decide) (by decide)) (g := (mkF m 286 #[sR oa, sI 11, sI vp, sI vc, sR b101] [(.int vc), (.int vp), (.int 0), (.ref oa), (.int 0), (.ref b101)])) rfl (by rw [hml]; rfl) (argsL := [(.ref oa), (.int 0), (.int vp), (.int vc)]) (rest := [(.int 0), (.ref b101)]) (lenOf own_pd2 rfl) rfl (by show 2 * 0 + _ ≤ _; exact Nat.le_of_eq rfl) (hb hby own_d1_286) (fun _ _ => ⟨rfl, e101, (by decide : 1 + 0 ≤ _), (by decide : 11 + 0 ≤ _)⟩)
  dsimp only [own_R, Pt.U, Pt.locs, Pt.cells, Pt.slots] at X102 l102 y102 z102 st102 hQ102
  subst y102 z102
  obtain ⟨oc102, hv102, N102q, K102, g102_0, g102_1⟩ := hQ102
  subst hv102
  obtain ⟨h102, e102⟩ : ∃ z, T102.heap = z := ⟨_, rfl⟩
  rw [e102] at K102
  have Xo102 := Xo101.keep K102 all0
  have KK102 := KK101.trans K102 all0
  have N102 : Fr n0 L102 := by rw [l102]; exact Fr.app N0 N102q
  refine own_to ?_ st102
  have F104 := (V101.keep K102 List.not_mem_nil)
  obtain ⟨cl105, Ar105, q105, S105, M105, H105, G105⟩ := id F104
  obtain ⟨T105, h105, X105, e105, W105, st105⟩ := stC X102 hx hZ e102 Ar105 (j := (0 : Int32)) (inb_of S105 ⟨by decide, by decide⟩) (g := (mkF m 289 #[sR oa, sI 11, sI vp, sI vc, sR b101] [(.int oc102), (.int 0), (.ref b101)])) rfl rfl (hb hby own_d1_289)
  rw [own_narC (own_up g102_1)] at W105
  have Xo105 := Xo102.wr W105 ge_b101
  have KK105 := KK102.wr W105 (Or.inr sz_b101)
  have V105 : Arv Z h105 b101 k101 .char (11 : Int32) [(.int oc102), (.int 0), (.int 0), (.int 0), (.int 0), (.int 0), (.int 0), (.int 0), (.int 0), (.int 0), (.int 0)] (.int (0 : Int32)) := Arv.set Ar105 q105 S105 M105 H105 G105 (own_fitC (own_up g102_1)) W105 0 rfl (Nat.le_of_ble_eq_true rfl)
  have N105 := Fr.snoc X105 N102 ge_b101
  refine own_to ?_ st105
  refine own_to (V := T105.setTop (mkF m 297 #[sR oa, sI 11, sI vp, sI vc, sR b101] [(.int vc), (.int vp), (.int 1), (.ref oa), (.int 1), (.ref b101)])) ?_ fun t k => (by
    refine XS.aload X105.here hx rfl (hb hby own_d1_290) rfl rfl ?_
    refine XS.iconst X105.here hx rfl (hb hby own_d1_292) ?_
    refine XS.aloadN X105.here hx rfl (hb hby own_d1_293) rfl rfl ?_
    refine XS.iconst X105.here hx rfl (hb hby own_d1_294) ?_
    refine XS.iloadN X105.here hx rfl (hb hby own_d1_295) rfl ?_
    refine XS.iloadN X105.here hx rfl (hb hby own_d1_296) rfl ?_
    exact k)
  have F107 := ((F103.keep K102 List.not_mem_nil List.not_mem_nil).wr W105 (Nat.ne_of_lt (Nat.lt_of_lt_of_le hS.lt (Nat.le_of_eq g101.symm))) (Nat.ne_of_lt (Nat.lt_of_lt_of_le hS.lt2 (Nat.le_of_eq g101.symm))))
  obtain ⟨_, _, ⟨T106, L106, k106, n106⟩, -, X106, ⟨Lc106, hQ106, l106, y106, z106⟩, st106⟩ := Jvm.LawKit.callS X105 hx (y := own_mn0) hown (mvT hZ (own_i hw 30 rfl)) (mvT hZ (own_i hw 31 rfl)) (mvT hZ (own_i hw 27 rfl)) (mvT hZ (own_i hw 32 rfl)) (by decide) (backOf (W := 2) (own_rmatD1 l Z a0 hw hst [] oa ua vp vc h105 n0 Xo105 F107 hc) hZ (own_i hw 32 rfl) (own_i hw 27 rfl) (by decide) (by decide)) (g := (mkF m 297 #[sR oa, sI 11, sI vp, sI vc, sR b101] [(.int vc), (.int vp), (.int 1), (.ref oa), (.int 1), (.ref b101)])) rfl (by rw [hml]; rfl) (argsL := [(.ref oa), (.int 1), (.int vp), (.int vc)]) (rest := [(.int 1), (.ref b101)]) (lenOf own_pd2 rfl) rfl (by show 2 * 0 + _ ≤ _; exact Nat.le_of_eq rfl) (hb hby own_d1_297) (fun _ _ => ⟨rfl, e105, (by decide : 1 + 0 ≤ _), (by decide : 11 + 0 ≤ _)⟩)
  dsimp only [own_R, Pt.U, Pt.locs, Pt.cells, Pt.slots] at X106 l106 y106 z106 st106 hQ106
  subst y106 z106
  obtain ⟨oc106, hv106, N106q, K106, g106_0, g106_1⟩ := hQ106
  subst hv106
  obtain ⟨h106, e106⟩ : ∃ z, T106.heap = z := ⟨_, rfl⟩
  rw [e106] at K106
  have Xo106 := Xo105.keep K106 all0
  have KK106 := KK105.trans K106 all0
  have N106 : Fr n0 L106 := by rw [l106]; exact Fr.app N105 N106q
  refine own_to ?_ st106
  have F108 := (V105.keep K106 List.not_mem_nil)
  obtain ⟨cl109, Ar109, q109, S109, M109, H109, G109⟩ := id F108
  obtain ⟨T109, h109, X109, e109, W109, st109⟩ := stC X106 hx hZ e106 Ar109 (j := (1 : Int32)) (inb_of S109 ⟨by decide, by decide⟩) (g := (mkF m 300 #[sR oa, sI 11, sI vp, sI vc, sR b101] [(.int oc106), (.int 1), (.ref b101)])) rfl rfl (hb hby own_d1_300)
  rw [own_narC (own_up g106_1)] at W109
  have Xo109 := Xo106.wr W109 ge_b101
  have KK109 := KK106.wr W109 (Or.inr sz_b101)
  have V109 : Arv Z h109 b101 k101 .char (11 : Int32) [(.int oc102), (.int oc106), (.int 0), (.int 0), (.int 0), (.int 0), (.int 0), (.int 0), (.int 0), (.int 0), (.int 0)] (.int (0 : Int32)) := Arv.set Ar109 q109 S109 M109 H109 G109 (own_fitC (own_up g106_1)) W109 1 rfl (Nat.le_of_ble_eq_true rfl)
  have N109 := Fr.snoc X109 N106 ge_b101
  refine own_to ?_ st109
  refine own_to (V := T109.setTop (mkF m 308 #[sR oa, sI 11, sI vp, sI vc, sR b101] [(.int vc), (.int vp), (.int 2), (.ref oa), (.int 2), (.ref b101)])) ?_ fun t k => (by
    refine XS.aload X109.here hx rfl (hb hby own_d1_301) rfl rfl ?_
    refine XS.iconst X109.here hx rfl (hb hby own_d1_303) ?_
    refine XS.aloadN X109.here hx rfl (hb hby own_d1_304) rfl rfl ?_
    refine XS.iconst X109.here hx rfl (hb hby own_d1_305) ?_
    refine XS.iloadN X109.here hx rfl (hb hby own_d1_306) rfl ?_
    refine XS.iloadN X109.here hx rfl (hb hby own_d1_307) rfl ?_
    exact k)
  have F111 := ((F107.keep K106 List.not_mem_nil List.not_mem_nil).wr W109 (Nat.ne_of_lt (Nat.lt_of_lt_of_le hS.lt (Nat.le_of_eq g101.symm))) (Nat.ne_of_lt (Nat.lt_of_lt_of_le hS.lt2 (Nat.le_of_eq g101.symm))))
  obtain ⟨_, _, ⟨T110, L110, k110, n110⟩, -, X110, ⟨Lc110, hQ110, l110, y110, z110⟩, st110⟩ := Jvm.LawKit.callS X109 hx (y := own_mn0) hown (mvT hZ (own_i hw 30 rfl)) (mvT hZ (own_i hw 31 rfl)) (mvT hZ (own_i hw 27 rfl)) (mvT hZ (own_i hw 32 rfl)) (by decide) (backOf (W := 2) (own_rmatD2 l Z a0 hw hst [] oa ua vp vc h109 n0 Xo109 F111 hc) hZ (own_i hw 32 rfl) (own_i hw 27 rfl) (by decide) (by decide)) (g := (mkF m 308 #[sR oa, sI 11, sI vp, sI vc, sR b101] [(.int vc), (.int vp), (.int 2), (.ref oa), (.int 2), (.ref b101)])) rfl (by rw [hml]; rfl) (argsL := [(.ref oa), (.int 2), (.int vp), (.int vc)]) (rest := [(.int 2), (.ref b101)]) (lenOf own_pd2 rfl) rfl (by show 2 * 0 + _ ≤ _; exact Nat.le_of_eq rfl) (hb hby own_d1_308) (fun _ _ => ⟨rfl, e109, (by decide : 1 + 0 ≤ _), (by decide : 11 + 0 ≤ _)⟩)
  dsimp only [own_R, Pt.U, Pt.locs, Pt.cells, Pt.slots] at X110 l110 y110 z110 st110 hQ110
  subst y110 z110
  obtain ⟨oc110, hv110, N110q, K110, g110_0, g110_1⟩ := hQ110
  subst hv110
  obtain ⟨h110, e110⟩ : ∃ z, T110.heap = z := ⟨_, rfl⟩
  rw [e110] at K110
  have Xo110 := Xo109.keep K110 all0
  have KK110 := KK109.trans K110 all0
  have N110 : Fr n0 L110 := by rw [l110]; exact Fr.app N109 N110q
  refine own_to ?_ st110
  have F112 := (V109.keep K110 List.not_mem_nil)
  obtain ⟨cl113, Ar113, q113, S113, M113, H113, G113⟩ := id F112
  obtain ⟨T113, h113, X113, e113, W113, st113⟩ := stC X110 hx hZ e110 Ar113 (j := (2 : Int32)) (inb_of S113 ⟨by decide, by decide⟩) (g := (mkF m 311 #[sR oa, sI 11, sI vp, sI vc, sR b101] [(.int oc110), (.int 2), (.ref b101)])) rfl rfl (hb hby own_d1_311)
  rw [own_narC (own_up g110_1)] at W113
  have Xo113 := Xo110.wr W113 ge_b101
  have KK113 := KK110.wr W113 (Or.inr sz_b101)
  have V113 : Arv Z h113 b101 k101 .char (11 : Int32) [(.int oc102), (.int oc106), (.int oc110), (.int 0), (.int 0), (.int 0), (.int 0), (.int 0), (.int 0), (.int 0), (.int 0)] (.int (0 : Int32)) := Arv.set Ar113 q113 S113 M113 H113 G113 (own_fitC (own_up g110_1)) W113 2 rfl (Nat.le_of_ble_eq_true rfl)
  have N113 := Fr.snoc X113 N110 ge_b101
  refine own_to ?_ st113
  refine own_to (V := T113.setTop (mkF m 319 #[sR oa, sI 11, sI vp, sI vc, sR b101] [(.int vc), (.int vp), (.int 3), (.ref oa), (.int 3), (.ref b101)])) ?_ fun t k => (by
    refine XS.aload X113.here hx rfl (hb hby own_d1_312) rfl rfl ?_
    refine XS.iconst X113.here hx rfl (hb hby own_d1_314) ?_
    refine XS.aloadN X113.here hx rfl (hb hby own_d1_315) rfl rfl ?_
    refine XS.iconst X113.here hx rfl (hb hby own_d1_316) ?_
    refine XS.iloadN X113.here hx rfl (hb hby own_d1_317) rfl ?_
    refine XS.iloadN X113.here hx rfl (hb hby own_d1_318) rfl ?_
    exact k)
  have F115 := ((F111.keep K110 List.not_mem_nil List.not_mem_nil).wr W113 (Nat.ne_of_lt (Nat.lt_of_lt_of_le hS.lt (Nat.le_of_eq g101.symm))) (Nat.ne_of_lt (Nat.lt_of_lt_of_le hS.lt2 (Nat.le_of_eq g101.symm))))
  obtain ⟨_, _, ⟨T114, L114, k114, n114⟩, -, X114, ⟨Lc114, hQ114, l114, y114, z114⟩, st114⟩ := Jvm.LawKit.callS X113 hx (y := own_mn0) hown (mvT hZ (own_i hw 30 rfl)) (mvT hZ (own_i hw 31 rfl)) (mvT hZ (own_i hw 27 rfl)) (mvT hZ (own_i hw 32 rfl)) (by decide) (backOf (W := 2) (own_rmatD3 l Z a0 hw hst [] oa ua vp vc h113 n0 Xo113 F115 hc) hZ (own_i hw 32 rfl) (own_i hw 27 rfl) (by decide) (by decide)) (g := (mkF m 319 #[sR oa, sI 11, sI vp, sI vc, sR b101] [(.int vc), (.int vp), (.int 3), (.ref oa), (.int 3), (.ref b101)])) rfl (by rw [hml]; rfl) (argsL := [(.ref oa), (.int 3), (.int vp), (.int vc)]) (rest := [(.int 3), (.ref b101)]) (lenOf own_pd2 rfl) rfl (by show 2 * 0 + _ ≤ _; exact Nat.le_of_eq rfl) (hb hby own_d1_319) (fun _ _ => ⟨rfl, e113, (by decide : 1 + 0 ≤ _), (by decide : 11 + 0 ≤ _)⟩)
  dsimp only [own_R, Pt.U, Pt.locs, Pt.cells, Pt.slots] at X114 l114 y114 z114 st114 hQ114
  subst y114 z114
  obtain ⟨oc114, hv114, N114q, K114, g114_0, g114_1⟩ := hQ114
  subst hv114
  obtain ⟨h114, e114⟩ : ∃ z, T114.heap = z := ⟨_, rfl⟩
  rw [e114] at K114
  have Xo114 := Xo113.keep K114 all0
  have KK114 := KK113.trans K114 all0
  have N114 : Fr n0 L114 := by rw [l114]; exact Fr.app N113 N114q
  refine own_to ?_ st114
  have F116 := (V113.keep K114 List.not_mem_nil)
  obtain ⟨cl117, Ar117, q117, S117, M117, H117, G117⟩ := id F116
  obtain ⟨T117, h117, X117, e117, W117, st117⟩ := stC X114 hx hZ e114 Ar117 (j := (3 : Int32)) (inb_of S117 ⟨by decide, by decide⟩) (g := (mkF m 322 #[sR oa, sI 11, sI vp, sI vc, sR b101] [(.int oc114), (.int 3), (.ref b101)])) rfl rfl (hb hby own_d1_322)
  rw [own_narC (own_up g114_1)] at W117
  have Xo117 := Xo114.wr W117 ge_b101
  have KK117 := KK114.wr W117 (Or.inr sz_b101)
  have V117 : Arv Z h117 b101 k101 .char (11 : Int32) [(.int oc102), (.int oc106), (.int oc110), (.int oc114), (.int 0), (.int 0), (.int 0), (.int 0), (.int 0), (.int 0), (.int 0)] (.int (0 : Int32)) := Arv.set Ar117 q117 S117 M117 H117 G117 (own_fitC (own_up g114_1)) W117 3 rfl (Nat.le_of_ble_eq_true rfl)
  have N117 := Fr.snoc X117 N114 ge_b101
  refine own_to ?_ st117
  refine own_to (V := T117.setTop (mkF m 330 #[sR oa, sI 11, sI vp, sI vc, sR b101] [(.int vc), (.int vp), (.int 4), (.ref oa), (.int 4), (.ref b101)])) ?_ fun t k => (by
    refine XS.aload X117.here hx rfl (hb hby own_d1_323) rfl rfl ?_
    refine XS.iconst X117.here hx rfl (hb hby own_d1_325) ?_
    refine XS.aloadN X117.here hx rfl (hb hby own_d1_326) rfl rfl ?_
    refine XS.iconst X117.here hx rfl (hb hby own_d1_327) ?_
    refine XS.iloadN X117.here hx rfl (hb hby own_d1_328) rfl ?_
    refine XS.iloadN X117.here hx rfl (hb hby own_d1_329) rfl ?_
    exact k)
  have F119 := ((F115.keep K114 List.not_mem_nil List.not_mem_nil).wr W117 (Nat.ne_of_lt (Nat.lt_of_lt_of_le hS.lt (Nat.le_of_eq g101.symm))) (Nat.ne_of_lt (Nat.lt_of_lt_of_le hS.lt2 (Nat.le_of_eq g101.symm))))
  obtain ⟨_, _, ⟨T118, L118, k118, n118⟩, -, X118, ⟨Lc118, hQ118, l118, y118, z118⟩, st118⟩ := Jvm.LawKit.callS X117 hx (y := own_mn0) hown (mvT hZ (own_i hw 30 rfl)) (mvT hZ (own_i hw 31 rfl)) (mvT hZ (own_i hw 27 rfl)) (mvT hZ (own_i hw 32 rfl)) (by decide) (backOf (W := 2) (own_rmatD4 l Z a0 hw hst [] oa ua vp vc h117 n0 Xo117 F119 hc) hZ (own_i hw 32 rfl) (own_i hw 27 rfl) (by decide) (by decide)) (g := (mkF m 330 #[sR oa, sI 11, sI vp, sI vc, sR b101] [(.int vc), (.int vp), (.int 4), (.ref oa), (.int 4), (.ref b101)])) rfl (by rw [hml]; rfl) (argsL := [(.ref oa), (.int 4), (.int vp), (.int vc)]) (rest := [(.int 4), (.ref b101)]) (lenOf own_pd2 rfl) rfl (by show 2 * 0 + _ ≤ _; exact Nat.le_of_eq rfl) (hb hby own_d1_330) (fun _ _ => ⟨rfl, e117, (by decide : 1 + 0 ≤ _), (by decide : 11 + 0 ≤ _)⟩)
  dsimp only [own_R, Pt.U, Pt.locs, Pt.cells, Pt.slots] at X118 l118 y118 z118 st118 hQ118
  subst y118 z118
  obtain ⟨oc118, hv118, N118q, K118, g118_0, g118_1⟩ := hQ118
  subst hv118
  obtain ⟨h118, e118⟩ : ∃ z, T118.heap = z := ⟨_, rfl⟩
  rw [e118] at K118
  have Xo118 := Xo117.keep K118 all0
  have KK118 := KK117.trans K118 all0
  have N118 : Fr n0 L118 := by rw [l118]; exact Fr.app N117 N118q
  refine own_to ?_ st118
  have F120 := (V117.keep K118 List.not_mem_nil)
  obtain ⟨cl121, Ar121, q121, S121, M121, H121, G121⟩ := id F120
  obtain ⟨T121, h121, X121, e121, W121, st121⟩ := stC X118 hx hZ e118 Ar121 (j := (4 : Int32)) (inb_of S121 ⟨by decide, by decide⟩) (g := (mkF m 333 #[sR oa, sI 11, sI vp, sI vc, sR b101] [(.int oc118), (.int 4), (.ref b101)])) rfl rfl (hb hby own_d1_333)
  rw [own_narC (own_up g118_1)] at W121
  have Xo121 := Xo118.wr W121 ge_b101
  have KK121 := KK118.wr W121 (Or.inr sz_b101)
  have V121 : Arv Z h121 b101 k101 .char (11 : Int32) [(.int oc102), (.int oc106), (.int oc110), (.int oc114), (.int oc118), (.int 0), (.int 0), (.int 0), (.int 0), (.int 0), (.int 0)] (.int (0 : Int32)) := Arv.set Ar121 q121 S121 M121 H121 G121 (own_fitC (own_up g118_1)) W121 4 rfl (Nat.le_of_ble_eq_true rfl)
  have N121 := Fr.snoc X121 N118 ge_b101
  refine own_to ?_ st121
  refine own_to (V := T121.setTop (mkF m 341 #[sR oa, sI 11, sI vp, sI vc, sR b101] [(.int vc), (.int vp), (.int 5), (.ref oa), (.int 5), (.ref b101)])) ?_ fun t k => (by
    refine XS.aload X121.here hx rfl (hb hby own_d1_334) rfl rfl ?_
    refine XS.iconst X121.here hx rfl (hb hby own_d1_336) ?_
    refine XS.aloadN X121.here hx rfl (hb hby own_d1_337) rfl rfl ?_
    refine XS.iconst X121.here hx rfl (hb hby own_d1_338) ?_
    refine XS.iloadN X121.here hx rfl (hb hby own_d1_339) rfl ?_
    refine XS.iloadN X121.here hx rfl (hb hby own_d1_340) rfl ?_
    exact k)
  have F123 := ((F119.keep K118 List.not_mem_nil List.not_mem_nil).wr W121 (Nat.ne_of_lt (Nat.lt_of_lt_of_le hS.lt (Nat.le_of_eq g101.symm))) (Nat.ne_of_lt (Nat.lt_of_lt_of_le hS.lt2 (Nat.le_of_eq g101.symm))))
  obtain ⟨_, _, ⟨T122, L122, k122, n122⟩, -, X122, ⟨Lc122, hQ122, l122, y122, z122⟩, st122⟩ := Jvm.LawKit.callS X121 hx (y := own_mn0) hown (mvT hZ (own_i hw 30 rfl)) (mvT hZ (own_i hw 31 rfl)) (mvT hZ (own_i hw 27 rfl)) (mvT hZ (own_i hw 32 rfl)) (by decide) (backOf (W := 2) (own_rmatD5 l Z a0 hw hst [] oa ua vp vc h121 n0 Xo121 F123 hc) hZ (own_i hw 32 rfl) (own_i hw 27 rfl) (by decide) (by decide)) (g := (mkF m 341 #[sR oa, sI 11, sI vp, sI vc, sR b101] [(.int vc), (.int vp), (.int 5), (.ref oa), (.int 5), (.ref b101)])) rfl (by rw [hml]; rfl) (argsL := [(.ref oa), (.int 5), (.int vp), (.int vc)]) (rest := [(.int 5), (.ref b101)]) (lenOf own_pd2 rfl) rfl (by show 2 * 0 + _ ≤ _; exact Nat.le_of_eq rfl) (hb hby own_d1_341) (fun _ _ => ⟨rfl, e121, (by decide : 1 + 0 ≤ _), (by decide : 11 + 0 ≤ _)⟩)
  dsimp only [own_R, Pt.U, Pt.locs, Pt.cells, Pt.slots] at X122 l122 y122 z122 st122 hQ122
  subst y122 z122
  obtain ⟨oc122, hv122, N122q, K122, g122_0, g122_1⟩ := hQ122
  subst hv122
  obtain ⟨h122, e122⟩ : ∃ z, T122.heap = z := ⟨_, rfl⟩
  rw [e122] at K122
  have Xo122 := Xo121.keep K122 all0
  have KK122 := KK121.trans K122 all0
  have N122 : Fr n0 L122 := by rw [l122]; exact Fr.app N121 N122q
  refine own_to ?_ st122
  have F124 := (V121.keep K122 List.not_mem_nil)
  obtain ⟨cl125, Ar125, q125, S125, M125, H125, G125⟩ := id F124
  obtain ⟨T125, h125, X125, e125, W125, st125⟩ := stC X122 hx hZ e122 Ar125 (j := (5 : Int32)) (inb_of S125 ⟨by decide, by decide⟩) (g := (mkF m 344 #[sR oa, sI 11, sI vp, sI vc, sR b101] [(.int oc122), (.int 5), (.ref b101)])) rfl rfl (hb hby own_d1_344)
  rw [own_narC (own_up g122_1)] at W125
  have Xo125 := Xo122.wr W125 ge_b101
  have KK125 := KK122.wr W125 (Or.inr sz_b101)
  have V125 : Arv Z h125 b101 k101 .char (11 : Int32) [(.int oc102), (.int oc106), (.int oc110), (.int oc114), (.int oc118), (.int oc122), (.int 0), (.int 0), (.int 0), (.int 0), (.int 0)] (.int (0 : Int32)) := Arv.set Ar125 q125 S125 M125 H125 G125 (own_fitC (own_up g122_1)) W125 5 rfl (Nat.le_of_ble_eq_true rfl)
  have N125 := Fr.snoc X125 N122 ge_b101
  refine own_to ?_ st125
  refine own_to (V := T125.setTop (mkF m 354 #[sR oa, sI 11, sI vp, sI vc, sR b101] [(.int vc), (.int vp), (.int 6), (.ref oa), (.int 6), (.ref b101)])) ?_ fun t k => (by
    refine XS.aload X125.here hx rfl (hb hby own_d1_345) rfl rfl ?_
    refine XS.bipush X125.here hx rfl (hb hby own_d1_347) ?_
    refine XS.aloadN X125.here hx rfl (hb hby own_d1_349) rfl rfl ?_
    refine XS.bipush X125.here hx rfl (hb hby own_d1_350) ?_
    refine XS.iloadN X125.here hx rfl (hb hby own_d1_352) rfl ?_
    refine XS.iloadN X125.here hx rfl (hb hby own_d1_353) rfl ?_
    exact k)
  have F127 := ((F123.keep K122 List.not_mem_nil List.not_mem_nil).wr W125 (Nat.ne_of_lt (Nat.lt_of_lt_of_le hS.lt (Nat.le_of_eq g101.symm))) (Nat.ne_of_lt (Nat.lt_of_lt_of_le hS.lt2 (Nat.le_of_eq g101.symm))))
  obtain ⟨_, _, ⟨T126, L126, k126, n126⟩, -, X126, ⟨Lc126, hQ126, l126, y126, z126⟩, st126⟩ := Jvm.LawKit.callS X125 hx (y := own_mn0) hown (mvT hZ (own_i hw 30 rfl)) (mvT hZ (own_i hw 31 rfl)) (mvT hZ (own_i hw 27 rfl)) (mvT hZ (own_i hw 32 rfl)) (by decide) (backOf (W := 2) (own_rmatD6 l Z a0 hw hst [] oa ua vp vc h125 n0 Xo125 F127 hc) hZ (own_i hw 32 rfl) (own_i hw 27 rfl) (by decide) (by decide)) (g := (mkF m 354 #[sR oa, sI 11, sI vp, sI vc, sR b101] [(.int vc), (.int vp), (.int 6), (.ref oa), (.int 6), (.ref b101)])) rfl (by rw [hml]; rfl) (argsL := [(.ref oa), (.int 6), (.int vp), (.int vc)]) (rest := [(.int 6), (.ref b101)]) (lenOf own_pd2 rfl) rfl (by show 2 * 0 + _ ≤ _; exact Nat.le_of_eq rfl) (hb hby own_d1_354) (fun _ _ => ⟨rfl, e125, (by decide : 1 + 0 ≤ _), (by decide : 11 + 0 ≤ _)⟩)
  dsimp only [own_R, Pt.U, Pt.locs, Pt.cells, Pt.slots] at X126 l126 y126 z126 st126 hQ126
  subst y126 z126
  obtain ⟨oc126, hv126, N126q, K126, g126_0, g126_1⟩ := hQ126
  subst hv126
  obtain ⟨h126, e126⟩ : ∃ z, T126.heap = z := ⟨_, rfl⟩
  rw [e126] at K126
  have Xo126 := Xo125.keep K126 all0
  have KK126 := KK125.trans K126 all0
  have N126 : Fr n0 L126 := by rw [l126]; exact Fr.app N125 N126q
  refine own_to ?_ st126
  have F128 := (V125.keep K126 List.not_mem_nil)
  obtain ⟨cl129, Ar129, q129, S129, M129, H129, G129⟩ := id F128
  obtain ⟨T129, h129, X129, e129, W129, st129⟩ := stC X126 hx hZ e126 Ar129 (j := (6 : Int32)) (inb_of S129 ⟨by decide, by decide⟩) (g := (mkF m 357 #[sR oa, sI 11, sI vp, sI vc, sR b101] [(.int oc126), (.int 6), (.ref b101)])) rfl rfl (hb hby own_d1_357)
  rw [own_narC (own_up g126_1)] at W129
  have Xo129 := Xo126.wr W129 ge_b101
  have KK129 := KK126.wr W129 (Or.inr sz_b101)
  have V129 : Arv Z h129 b101 k101 .char (11 : Int32) [(.int oc102), (.int oc106), (.int oc110), (.int oc114), (.int oc118), (.int oc122), (.int oc126), (.int 0), (.int 0), (.int 0), (.int 0)] (.int (0 : Int32)) := Arv.set Ar129 q129 S129 M129 H129 G129 (own_fitC (own_up g126_1)) W129 6 rfl (Nat.le_of_ble_eq_true rfl)
  have N129 := Fr.snoc X129 N126 ge_b101
  refine own_to ?_ st129
  refine own_to (V := T129.setTop (mkF m 367 #[sR oa, sI 11, sI vp, sI vc, sR b101] [(.int vc), (.int vp), (.int 7), (.ref oa), (.int 7), (.ref b101)])) ?_ fun t k => (by
    refine XS.aload X129.here hx rfl (hb hby own_d1_358) rfl rfl ?_
    refine XS.bipush X129.here hx rfl (hb hby own_d1_360) ?_
    refine XS.aloadN X129.here hx rfl (hb hby own_d1_362) rfl rfl ?_
    refine XS.bipush X129.here hx rfl (hb hby own_d1_363) ?_
    refine XS.iloadN X129.here hx rfl (hb hby own_d1_365) rfl ?_
    refine XS.iloadN X129.here hx rfl (hb hby own_d1_366) rfl ?_
    exact k)
  have F131 := ((F127.keep K126 List.not_mem_nil List.not_mem_nil).wr W129 (Nat.ne_of_lt (Nat.lt_of_lt_of_le hS.lt (Nat.le_of_eq g101.symm))) (Nat.ne_of_lt (Nat.lt_of_lt_of_le hS.lt2 (Nat.le_of_eq g101.symm))))
  obtain ⟨_, _, ⟨T130, L130, k130, n130⟩, -, X130, ⟨Lc130, hQ130, l130, y130, z130⟩, st130⟩ := Jvm.LawKit.callS X129 hx (y := own_mn0) hown (mvT hZ (own_i hw 30 rfl)) (mvT hZ (own_i hw 31 rfl)) (mvT hZ (own_i hw 27 rfl)) (mvT hZ (own_i hw 32 rfl)) (by decide) (backOf (W := 2) (own_rmatD7 l Z a0 hw hst [] oa ua vp vc h129 n0 Xo129 F131 hc) hZ (own_i hw 32 rfl) (own_i hw 27 rfl) (by decide) (by decide)) (g := (mkF m 367 #[sR oa, sI 11, sI vp, sI vc, sR b101] [(.int vc), (.int vp), (.int 7), (.ref oa), (.int 7), (.ref b101)])) rfl (by rw [hml]; rfl) (argsL := [(.ref oa), (.int 7), (.int vp), (.int vc)]) (rest := [(.int 7), (.ref b101)]) (lenOf own_pd2 rfl) rfl (by show 2 * 0 + _ ≤ _; exact Nat.le_of_eq rfl) (hb hby own_d1_367) (fun _ _ => ⟨rfl, e129, (by decide : 1 + 0 ≤ _), (by decide : 11 + 0 ≤ _)⟩)
  dsimp only [own_R, Pt.U, Pt.locs, Pt.cells, Pt.slots] at X130 l130 y130 z130 st130 hQ130
  subst y130 z130
  obtain ⟨oc130, hv130, N130q, K130, g130_0, g130_1⟩ := hQ130
  subst hv130
  obtain ⟨h130, e130⟩ : ∃ z, T130.heap = z := ⟨_, rfl⟩
  rw [e130] at K130
  have Xo130 := Xo129.keep K130 all0
  have KK130 := KK129.trans K130 all0
  have N130 : Fr n0 L130 := by rw [l130]; exact Fr.app N129 N130q
  refine own_to ?_ st130
  have F132 := (V129.keep K130 List.not_mem_nil)
  obtain ⟨cl133, Ar133, q133, S133, M133, H133, G133⟩ := id F132
  obtain ⟨T133, h133, X133, e133, W133, st133⟩ := stC X130 hx hZ e130 Ar133 (j := (7 : Int32)) (inb_of S133 ⟨by decide, by decide⟩) (g := (mkF m 370 #[sR oa, sI 11, sI vp, sI vc, sR b101] [(.int oc130), (.int 7), (.ref b101)])) rfl rfl (hb hby own_d1_370)
  rw [own_narC (own_up g130_1)] at W133
  have Xo133 := Xo130.wr W133 ge_b101
  have KK133 := KK130.wr W133 (Or.inr sz_b101)
  have V133 : Arv Z h133 b101 k101 .char (11 : Int32) [(.int oc102), (.int oc106), (.int oc110), (.int oc114), (.int oc118), (.int oc122), (.int oc126), (.int oc130), (.int 0), (.int 0), (.int 0)] (.int (0 : Int32)) := Arv.set Ar133 q133 S133 M133 H133 G133 (own_fitC (own_up g130_1)) W133 7 rfl (Nat.le_of_ble_eq_true rfl)
  have N133 := Fr.snoc X133 N130 ge_b101
  refine own_to ?_ st133
  refine own_to (V := T133.setTop (mkF m 380 #[sR oa, sI 11, sI vp, sI vc, sR b101] [(.int vc), (.int vp), (.int 8), (.ref oa), (.int 8), (.ref b101)])) ?_ fun t k => (by
    refine XS.aload X133.here hx rfl (hb hby own_d1_371) rfl rfl ?_
    refine XS.bipush X133.here hx rfl (hb hby own_d1_373) ?_
    refine XS.aloadN X133.here hx rfl (hb hby own_d1_375) rfl rfl ?_
    refine XS.bipush X133.here hx rfl (hb hby own_d1_376) ?_
    refine XS.iloadN X133.here hx rfl (hb hby own_d1_378) rfl ?_
    refine XS.iloadN X133.here hx rfl (hb hby own_d1_379) rfl ?_
    exact k)
  have F135 := ((F131.keep K130 List.not_mem_nil List.not_mem_nil).wr W133 (Nat.ne_of_lt (Nat.lt_of_lt_of_le hS.lt (Nat.le_of_eq g101.symm))) (Nat.ne_of_lt (Nat.lt_of_lt_of_le hS.lt2 (Nat.le_of_eq g101.symm))))
  obtain ⟨_, _, ⟨T134, L134, k134, n134⟩, -, X134, ⟨Lc134, hQ134, l134, y134, z134⟩, st134⟩ := Jvm.LawKit.callS X133 hx (y := own_mn0) hown (mvT hZ (own_i hw 30 rfl)) (mvT hZ (own_i hw 31 rfl)) (mvT hZ (own_i hw 27 rfl)) (mvT hZ (own_i hw 32 rfl)) (by decide) (backOf (W := 2) (own_rmatD8 l Z a0 hw hst [] oa ua vp vc h133 n0 Xo133 F135 hc) hZ (own_i hw 32 rfl) (own_i hw 27 rfl) (by decide) (by decide)) (g := (mkF m 380 #[sR oa, sI 11, sI vp, sI vc, sR b101] [(.int vc), (.int vp), (.int 8), (.ref oa), (.int 8), (.ref b101)])) rfl (by rw [hml]; rfl) (argsL := [(.ref oa), (.int 8), (.int vp), (.int vc)]) (rest := [(.int 8), (.ref b101)]) (lenOf own_pd2 rfl) rfl (by show 2 * 0 + _ ≤ _; exact Nat.le_of_eq rfl) (hb hby own_d1_380) (fun _ _ => ⟨rfl, e133, (by decide : 1 + 0 ≤ _), (by decide : 11 + 0 ≤ _)⟩)
  dsimp only [own_R, Pt.U, Pt.locs, Pt.cells, Pt.slots] at X134 l134 y134 z134 st134 hQ134
  subst y134 z134
  obtain ⟨oc134, hv134, N134q, K134, g134_0, g134_1⟩ := hQ134
  subst hv134
  obtain ⟨h134, e134⟩ : ∃ z, T134.heap = z := ⟨_, rfl⟩
  rw [e134] at K134
  have Xo134 := Xo133.keep K134 all0
  have KK134 := KK133.trans K134 all0
  have N134 : Fr n0 L134 := by rw [l134]; exact Fr.app N133 N134q
  refine own_to ?_ st134
  have F136 := (V133.keep K134 List.not_mem_nil)
  obtain ⟨cl137, Ar137, q137, S137, M137, H137, G137⟩ := id F136
  obtain ⟨T137, h137, X137, e137, W137, st137⟩ := stC X134 hx hZ e134 Ar137 (j := (8 : Int32)) (inb_of S137 ⟨by decide, by decide⟩) (g := (mkF m 383 #[sR oa, sI 11, sI vp, sI vc, sR b101] [(.int oc134), (.int 8), (.ref b101)])) rfl rfl (hb hby own_d1_383)
  rw [own_narC (own_up g134_1)] at W137
  have Xo137 := Xo134.wr W137 ge_b101
  have KK137 := KK134.wr W137 (Or.inr sz_b101)
  have V137 : Arv Z h137 b101 k101 .char (11 : Int32) [(.int oc102), (.int oc106), (.int oc110), (.int oc114), (.int oc118), (.int oc122), (.int oc126), (.int oc130), (.int oc134), (.int 0), (.int 0)] (.int (0 : Int32)) := Arv.set Ar137 q137 S137 M137 H137 G137 (own_fitC (own_up g134_1)) W137 8 rfl (Nat.le_of_ble_eq_true rfl)
  have N137 := Fr.snoc X137 N134 ge_b101
  refine own_to ?_ st137
  refine own_to (V := T137.setTop (mkF m 393 #[sR oa, sI 11, sI vp, sI vc, sR b101] [(.int vc), (.int vp), (.int 9), (.ref oa), (.int 9), (.ref b101)])) ?_ fun t k => (by
    refine XS.aload X137.here hx rfl (hb hby own_d1_384) rfl rfl ?_
    refine XS.bipush X137.here hx rfl (hb hby own_d1_386) ?_
    refine XS.aloadN X137.here hx rfl (hb hby own_d1_388) rfl rfl ?_
    refine XS.bipush X137.here hx rfl (hb hby own_d1_389) ?_
    refine XS.iloadN X137.here hx rfl (hb hby own_d1_391) rfl ?_
    refine XS.iloadN X137.here hx rfl (hb hby own_d1_392) rfl ?_
    exact k)
  have F139 := ((F135.keep K134 List.not_mem_nil List.not_mem_nil).wr W137 (Nat.ne_of_lt (Nat.lt_of_lt_of_le hS.lt (Nat.le_of_eq g101.symm))) (Nat.ne_of_lt (Nat.lt_of_lt_of_le hS.lt2 (Nat.le_of_eq g101.symm))))
  obtain ⟨_, _, ⟨T138, L138, k138, n138⟩, -, X138, ⟨Lc138, hQ138, l138, y138, z138⟩, st138⟩ := Jvm.LawKit.callS X137 hx (y := own_mn0) hown (mvT hZ (own_i hw 30 rfl)) (mvT hZ (own_i hw 31 rfl)) (mvT hZ (own_i hw 27 rfl)) (mvT hZ (own_i hw 32 rfl)) (by decide) (backOf (W := 2) (own_rmatD9 l Z a0 hw hst [] oa ua vp vc h137 n0 Xo137 F139 hc) hZ (own_i hw 32 rfl) (own_i hw 27 rfl) (by decide) (by decide)) (g := (mkF m 393 #[sR oa, sI 11, sI vp, sI vc, sR b101] [(.int vc), (.int vp), (.int 9), (.ref oa), (.int 9), (.ref b101)])) rfl (by rw [hml]; rfl) (argsL := [(.ref oa), (.int 9), (.int vp), (.int vc)]) (rest := [(.int 9), (.ref b101)]) (lenOf own_pd2 rfl) rfl (by show 2 * 0 + _ ≤ _; exact Nat.le_of_eq rfl) (hb hby own_d1_393) (fun _ _ => ⟨rfl, e137, (by decide : 1 + 0 ≤ _), (by decide : 11 + 0 ≤ _)⟩)
  dsimp only [own_R, Pt.U, Pt.locs, Pt.cells, Pt.slots] at X138 l138 y138 z138 st138 hQ138
  subst y138 z138
  obtain ⟨oc138, hv138, N138q, K138, g138_0, g138_1⟩ := hQ138
  subst hv138
  obtain ⟨h138, e138⟩ : ∃ z, T138.heap = z := ⟨_, rfl⟩
  rw [e138] at K138
  have Xo138 := Xo137.keep K138 all0
  have KK138 := KK137.trans K138 all0
  have N138 : Fr n0 L138 := by rw [l138]; exact Fr.app N137 N138q
  refine own_to ?_ st138
  have F140 := (V137.keep K138 List.not_mem_nil)
  obtain ⟨cl141, Ar141, q141, S141, M141, H141, G141⟩ := id F140
  obtain ⟨T141, h141, X141, e141, W141, st141⟩ := stC X138 hx hZ e138 Ar141 (j := (9 : Int32)) (inb_of S141 ⟨by decide, by decide⟩) (g := (mkF m 396 #[sR oa, sI 11, sI vp, sI vc, sR b101] [(.int oc138), (.int 9), (.ref b101)])) rfl rfl (hb hby own_d1_396)
  rw [own_narC (own_up g138_1)] at W141
  have Xo141 := Xo138.wr W141 ge_b101
  have KK141 := KK138.wr W141 (Or.inr sz_b101)
  have V141 : Arv Z h141 b101 k101 .char (11 : Int32) [(.int oc102), (.int oc106), (.int oc110), (.int oc114), (.int oc118), (.int oc122), (.int oc126), (.int oc130), (.int oc134), (.int oc138), (.int 0)] (.int (0 : Int32)) := Arv.set Ar141 q141 S141 M141 H141 G141 (own_fitC (own_up g138_1)) W141 9 rfl (Nat.le_of_ble_eq_true rfl)
  have N141 := Fr.snoc X141 N138 ge_b101
  refine own_to ?_ st141
  refine own_to (V := T141.setTop (mkF m 406 #[sR oa, sI 11, sI vp, sI vc, sR b101] [(.int vc), (.int vp), (.int 10), (.ref oa), (.int 10), (.ref b101)])) ?_ fun t k => (by
    refine XS.aload X141.here hx rfl (hb hby own_d1_397) rfl rfl ?_
    refine XS.bipush X141.here hx rfl (hb hby own_d1_399) ?_
    refine XS.aloadN X141.here hx rfl (hb hby own_d1_401) rfl rfl ?_
    refine XS.bipush X141.here hx rfl (hb hby own_d1_402) ?_
    refine XS.iloadN X141.here hx rfl (hb hby own_d1_404) rfl ?_
    refine XS.iloadN X141.here hx rfl (hb hby own_d1_405) rfl ?_
    exact k)
  have F143 := ((F139.keep K138 List.not_mem_nil List.not_mem_nil).wr W141 (Nat.ne_of_lt (Nat.lt_of_lt_of_le hS.lt (Nat.le_of_eq g101.symm))) (Nat.ne_of_lt (Nat.lt_of_lt_of_le hS.lt2 (Nat.le_of_eq g101.symm))))
  obtain ⟨_, _, ⟨T142, L142, k142, n142⟩, -, X142, ⟨Lc142, hQ142, l142, y142, z142⟩, st142⟩ := Jvm.LawKit.callS X141 hx (y := own_mn0) hown (mvT hZ (own_i hw 30 rfl)) (mvT hZ (own_i hw 31 rfl)) (mvT hZ (own_i hw 27 rfl)) (mvT hZ (own_i hw 32 rfl)) (by decide) (backOf (W := 2) (own_rmatD10 l Z a0 hw hst [] oa ua vp vc h141 n0 Xo141 F143 hc) hZ (own_i hw 32 rfl) (own_i hw 27 rfl) (by decide) (by decide)) (g := (mkF m 406 #[sR oa, sI 11, sI vp, sI vc, sR b101] [(.int vc), (.int vp), (.int 10), (.ref oa), (.int 10), (.ref b101)])) rfl (by rw [hml]; rfl) (argsL := [(.ref oa), (.int 10), (.int vp), (.int vc)]) (rest := [(.int 10), (.ref b101)]) (lenOf own_pd2 rfl) rfl (by show 2 * 0 + _ ≤ _; exact Nat.le_of_eq rfl) (hb hby own_d1_406) (fun _ _ => ⟨rfl, e141, (by decide : 1 + 0 ≤ _), (by decide : 11 + 0 ≤ _)⟩)
  dsimp only [own_R, Pt.U, Pt.locs, Pt.cells, Pt.slots] at X142 l142 y142 z142 st142 hQ142
  subst y142 z142
  obtain ⟨oc142, hv142, N142q, K142, g142_0, g142_1⟩ := hQ142
  subst hv142
  obtain ⟨h142, e142⟩ : ∃ z, T142.heap = z := ⟨_, rfl⟩
  rw [e142] at K142
  have Xo142 := Xo141.keep K142 all0
  have KK142 := KK141.trans K142 all0
  have N142 : Fr n0 L142 := by rw [l142]; exact Fr.app N141 N142q
  refine own_to ?_ st142
  have F144 := (V141.keep K142 List.not_mem_nil)
  obtain ⟨cl145, Ar145, q145, S145, M145, H145, G145⟩ := id F144
  obtain ⟨T145, h145, X145, e145, W145, st145⟩ := stC X142 hx hZ e142 Ar145 (j := (10 : Int32)) (inb_of S145 ⟨by decide, by decide⟩) (g := (mkF m 409 #[sR oa, sI 11, sI vp, sI vc, sR b101] [(.int oc142), (.int 10), (.ref b101)])) rfl rfl (hb hby own_d1_409)
  rw [own_narC (own_up g142_1)] at W145
  have Xo145 := Xo142.wr W145 ge_b101
  have KK145 := KK142.wr W145 (Or.inr sz_b101)
  have V145 : Arv Z h145 b101 k101 .char (11 : Int32) [(.int oc102), (.int oc106), (.int oc110), (.int oc114), (.int oc118), (.int oc122), (.int oc126), (.int oc130), (.int oc134), (.int oc138), (.int oc142)] (.int (0 : Int32)) := Arv.set Ar145 q145 S145 M145 H145 G145 (own_fitC (own_up g142_1)) W145 10 rfl (Nat.le_of_ble_eq_true rfl)
  have N145 := Fr.snoc X145 N142 ge_b101
  refine own_to ?_ st145
  obtain ⟨T146, h146, X146, e146, E146, A146, D146, U146, st146⟩ := newO X145 hx hZ hown (own_i hw 55 rfl) (own_i hw 2 rfl) (own_i hw 1 rfl) e145 (g := (mkF m 410 #[sR oa, sI 11, sI vp, sI vc, sR b101] [])) rfl (hb hby own_d1_410) (by decide) (by decide)
  obtain ⟨b146, g146⟩ : ∃ z, z = h145.size := ⟨_, rfl⟩
  rw [← g146] at A146 D146 U146 st146
  have Xo146 := Xo145.ext E146
  have KK146 := KK145.ext E146
  have ge_b146 := Nat.le_trans (own_ole Xo145) (Nat.le_of_eq g146.symm)
  have sz_b146 := Nat.le_trans KK145.1 (Nat.le_of_eq g146.symm)
  have Fi146_4 : Fld Z h146 b146 "java/lang/String" "value" "[B" .null := D146 (Or.inr (own_i hw 4 rfl)) (ty := (.array .byte)) (by decide)
  have Fi146_5 : Fld Z h146 b146 "java/lang/String" "coder" "B" (.int 0) := D146 (Or.inr (own_i hw 5 rfl)) (ty := .byte) (by decide)
  refine own_to ?_ st146
  refine own_to (V := T146.setTop (mkF m 416 #[sR oa, sI 11, sI vp, sI vc, sR b101] [(.ref b101), (.ref b146), (.ref b146)])) ?_ fun t k => (by
    refine XS.dup X146.here hx rfl (hb hby own_d1_413) rfl rfl ?_
    refine XS.aload X146.here hx rfl (hb hby own_d1_414) rfl rfl ?_
    exact k)
  have F148 := (V145.ext E146)
  obtain ⟨_, _, ⟨T147, L147, k147, n147⟩, -, X147, ⟨Lc147, hQ147, l147, y147, z147⟩, st147⟩ := X146.specialBack hx (y := own_mn4) rfl hown (mvT hZ (own_i hw 56 rfl)) (mvT hZ (own_i hw 57 rfl)) (mvT hZ (own_i hw 58 rfl)) (by decide) (StrChars.Road.backV (W := 1) hZ (own_hws hw) (kI := 4) (own_i hw 2 rfl) (cs := ([oc102, oc106, oc110, oc114, oc118, oc122, oc126, oc130, oc134, oc138, oc142] : List Int32)) (bs := ([oc102, oc106, oc110, oc114, oc118, oc122, oc126, oc130, oc134, oc138, oc142] : List Int32).map (fun c => c.toInt8.toInt32)) (n := 11) ge_b146 (own_ole Xo146) A146 Fi146_4 Fi146_5 F148 (O2.ext Xo146.2) P5 rfl rfl (by decide) (by decide) (own_allS g102_1 (own_allS g106_1 (own_allS g110_1 (own_allS g114_1 (own_allS g118_1 (own_allS g122_1 (own_allS g126_1 (own_allS g130_1 (own_allS g134_1 (own_allS g138_1 (own_allS g142_1 own_all0))))))))))) rfl (by decide) (by decide)) (g := (mkF m 416 #[sR oa, sI 11, sI vp, sI vc, sR b101] [(.ref b101), (.ref b146), (.ref b146)])) rfl (by rw [hml]; rfl) (Steps.refl _) (a := b146) (argsL := [(.ref b101)]) (rest := [(.ref b146)]) (lenOf own_pd3 rfl) rfl (by show 2 * 0 + _ ≤ _; exact Nat.le_of_eq rfl) (hb hby own_d1_416) (fun _ _ => ⟨rfl, e146, (by decide : 2 + 1 ≤ _), (by decide : 15 + 11 ≤ _)⟩)
  dsimp only [own_R, Pt.U, Pt.locs, Pt.cells, Pt.slots] at X147 l147 y147 z147 st147 hQ147
  subst y147 z147
  obtain ⟨hv147, N147q, K147, gE147, gC147, u147, kb147, ua147, ub147, uc147, gV147, gK147⟩ := hQ147
  subst hv147
  obtain ⟨h147, e147⟩ : ∃ z, T147.heap = z := ⟨_, rfl⟩
  rw [e147] at K147 gE147 gC147 gV147 gK147
  have Xo147 := Xo146.keep K147 (allS ge_b146 all0)
  have KK147 := KK146.trans K147 (allS (Or.inr sz_b146) all0)
  have N147 : Fr n0 L147 := by rw [l147]; exact Fr.app N145 N147q
  have ge_u147 := Nat.le_trans (own_ole Xo146) ub147
  have sz_u147 := Nat.le_trans KK146.1 ub147
  have Fs147 : own_Str Z h147 b146 u147 ([oc102, oc106, oc110, oc114, oc118, oc122, oc126, oc130, oc134, oc138, oc142] : List Int32) := own_mkStr0 gE147 gV147 gC147 gK147 rfl (own_allS g102_1 (own_allS g106_1 (own_allS g110_1 (own_allS g114_1 (own_allS g118_1 (own_allS g122_1 (own_allS g126_1 (own_allS g130_1 (own_allS g134_1 (own_allS g138_1 (own_allS g142_1 own_all0))))))))))) (Nat.le_of_ble_eq_true rfl)
  refine own_to ?_ (fun t k => st147.trans k)
  have Fz149 : own_Str Z h147 b146 u147 ([(own_at (0 : Int32) vp vc (68 : Int32)), (own_at (1 : Int32) vp vc (101 : Int32)), (own_at (2 : Int32) vp vc (118 : Int32)), (own_at (3 : Int32) vp vc (101 : Int32)), (own_at (4 : Int32) vp vc (108 : Int32)), (own_at (5 : Int32) vp vc (111 : Int32)), (own_at (6 : Int32) vp vc (112 : Int32)), (own_at (7 : Int32) vp vc (109 : Int32)), (own_at (8 : Int32) vp vc (101 : Int32)), (own_at (9 : Int32) vp vc (110 : Int32)), (own_at (10 : Int32) vp vc (116 : Int32))] : List Int32) := by
    rw [← g102_0, ← g106_0, ← g110_0, ← g114_0, ← g118_0, ← g122_0, ← g126_0, ← g130_0, ← g134_0, ← g138_0, ← g142_0]
    exact Fs147
  exact own_retR X147 hx hret (by decide) rfl hlk (hb hby own_d1_419) (by rw [e147]; exact (⟨b146, u147, rfl, N147, KK147, Fz149⟩)) (by decide) (by decide)
def own_QmkD12 (Z : State) (oa : Addr) (ua : Addr) (vp : Int32) (vc : Int32) (h0 : Heap) (n0 : Nat) (v : Option Value) (h : Heap) (L : List Loc) : Prop := (∃ (oo : Addr) (ou : Addr), v = some (.ref oo) ∧ Fr n0 L ∧ Keep h0 h [] ∧ (own_Str Z h oo ou ([(own_at (0 : Int32) vp vc (68 : Int32)), (own_at (1 : Int32) vp vc (101 : Int32)), (own_at (2 : Int32) vp vc (118 : Int32)), (own_at (3 : Int32) vp vc (101 : Int32)), (own_at (4 : Int32) vp vc (108 : Int32)), (own_at (5 : Int32) vp vc (111 : Int32)), (own_at (6 : Int32) vp vc (112 : Int32)), (own_at (7 : Int32) vp vc (109 : Int32)), (own_at (8 : Int32) vp vc (101 : Int32)), (own_at (9 : Int32) vp vc (110 : Int32)), (own_at (10 : Int32) vp vc (116 : Int32)), vc] : List Int32)))
theorem own_ef_mkD12 (m : MethodId) (oa : Addr) (vp : Int32) (vc : Int32)  : entryFrame m #[(.ref oa), (.int 12), (.int vp), (.int vc)] 5 = mkF m 0 #[sR oa, sI 12, sI vp, sI vc, .unset] [] := by first | (simp [entryFrame, mkF, argsToLocals, Value.category]; done) | rfl
set_option maxRecDepth 65536 in
set_option maxHeartbeats 40000000 in
theorem own_rmmkD12 (l : Launch) (Z : State) (a0 : Array Value) (hw : ∀ d ∈ tables_1, d.before a0 Z = true) (hst : own_St Z) (ws : List Jvm.Cond) (oa : Addr) (ua : Addr) (vp : Int32) (vc : Int32) (h0 : Heap) (n0 : Nat) (X00 : Old Z n0 h0) (hS : own_Str Z h0 oa ua ([(68 : Int32), (101 : Int32), (118 : Int32), (101 : Int32), (108 : Int32), (111 : Int32), (112 : Int32), (109 : Int32), (101 : Int32), (110 : Int32), (116 : Int32)] : List Int32)) (hc : ¬ vc < 0 ∧ ¬ (255 : Int32) < vc) :
    own_MF l own_mn3 method_4_code 5 (Option.some (Jvm.ClassFile.FieldType.object "java/lang/String")) ws (own_R 5 3 28 70) #[(.ref oa), (.int 12), (.int vp), (.int vc)] Z h0 (own_QmkD12 Z oa ua vp vc h0 n0) := by
  refine own_body (plainFor_of_name own_pn0) (fun m => own_ef_mkD12 m oa vp vc ) ?_
  intro p e s m below meth c s₁ hx hby hret hlk hml hZ hown hnm hh X0 e0
  have N0 := Fr.nil n0
  have KK0 : Keep h0 h0 [] := Keep.refl h0 _
  obtain ⟨⟨G1, O2, P5⟩, ⟨G3, O4, rG3⟩, -⟩ := id hst
  refine own_to (V := s₁.setTop (mkF m 422 #[sR oa, sI 12, sI vp, sI vc, .unset] [(.int 12)])) ?_ fun t k => (by
    refine XS.iloadN X0.here hx rfl (hb hby own_d1_0) rfl ?_
    refine XS.bipush X0.here hx rfl (hb hby own_d1_1) ?_
    refine XS.icmpYes X0.here hx rfl (pc0 := 3) (pc' := 127) rfl (hb hby own_d1_3) rfl (feq ((by decide) : ¬ ((12 : Int32) = (9 : Int32)))).2 (by decide) (by decide) ?_
    refine XS.iloadN X0.here hx rfl (hb hby own_d1_127) rfl ?_
    refine XS.bipush X0.here hx rfl (hb hby own_d1_128) ?_
    refine XS.icmpYes X0.here hx rfl (pc0 := 130) (pc' := 267) rfl (hb hby own_d1_130) rfl (feq ((by decide) : ¬ ((12 : Int32) = (10 : Int32)))).2 (by decide) (by decide) ?_
    refine XS.iloadN X0.here hx rfl (hb hby own_d1_267) rfl ?_
    refine XS.bipush X0.here hx rfl (hb hby own_d1_268) ?_
    refine XS.icmpYes X0.here hx rfl (pc0 := 270) (pc' := 420) rfl (hb hby own_d1_270) rfl (feq ((by decide) : ¬ ((12 : Int32) = (11 : Int32)))).2 (by decide) (by decide) ?_
    refine XS.bipush X0.here hx rfl (hb hby own_d1_420) ?_
    exact k)
  obtain ⟨T101, h101, k101, X101, e101, E101, A101, st101⟩ := newP X0 hx hZ (own_i hw 29 rfl) e0 (g := (mkF m 422 #[sR oa, sI 12, sI vp, sI vc, .unset] [(.int 12)])) rfl (hb hby own_d1_422) rfl (by decide) (cap := 12) (by decide) (by decide) (by decide) (by decide)
  obtain ⟨b101, g101⟩ : ∃ z, z = h0.size := ⟨_, rfl⟩
  rw [← g101] at A101 st101
  have Xo101 := X00.ext E101
  have KK101 := KK0.ext E101
  have ge_b101 := Nat.le_trans (own_ole X00) (Nat.le_of_eq g101.symm)
  have sz_b101 := Nat.le_trans KK0.1 (Nat.le_of_eq g101.symm)
  have V101 : Arv Z h101 b101 k101 .char (12 : Int32) [(.int 0), (.int 0), (.int 0), (.int 0), (.int 0), (.int 0), (.int 0), (.int 0), (.int 0), (.int 0), (.int 0), (.int 0)] (.int (0 : Int32)) := (Arv.new A101 (by decide)).pad (pad_rep [] (.int (0 : Int32)) 12)
  refine own_to ?_ st101
  refine own_to (V := T101.setTop (mkF m 433 #[sR oa, sI 12, sI vp, sI vc, sR b101] [(.int vc), (.int vp), (.int 0), (.ref oa), (.int 0), (.ref b101)])) ?_ fun t k => (by
    refine XS.astore X101.here hx rfl (hb hby own_d1_424) rfl rfl (l' := #[sR oa, sI 12, sI vp, sI vc, sR b101]) rfl ?_
    refine XS.aload X101.here hx rfl (hb hby own_d1_426) rfl rfl ?_
    refine XS.iconst X101.here hx rfl (hb hby own_d1_428) ?_
    refine XS.aloadN X101.here hx rfl (hb hby own_d1_429) rfl rfl ?_
    refine XS.iconst X101.here hx rfl (hb hby own_d1_430) ?_
    refine XS.iloadN X101.here hx rfl (hb hby own_d1_431) rfl ?_
    refine XS.iloadN X101.here hx rfl (hb hby own_d1_432) rfl ?_
    exact k)
  have F103 := (hS.ext E101)
  obtain ⟨_, _, ⟨T102, L102, k102, n102⟩, -, X102, ⟨Lc102, hQ102, l102, y102, z102⟩, st102⟩ := Jvm.LawKit.callS X101 hx (y := own_mn0) hown (mvT hZ (own_i hw 30 rfl)) (mvT hZ (own_i hw 31 rfl)) (mvT hZ (own_i hw 27 rfl)) (mvT hZ (own_i hw 32 rfl)) (by decide) (backOf (W := 2) (own_rmatD0 l Z a0 hw hst [] oa ua vp vc h101 n0 Xo101 F103 hc) hZ (own_i hw 32 rfl) (own_i hw 27 rfl) (by decide) (by decide)) (g := (mkF m 433 #[sR oa, sI 12, sI vp, sI vc, sR b101] [(.int vc), (.int vp), (.int 0), (.ref oa), (.int 0), (.ref b101)])) rfl (by rw [hml]; rfl) (argsL := [(.ref oa), (.int 0), (.int vp), (.int vc)]) (rest := [(.int 0), (.ref b101)]) (lenOf own_pd2 rfl) rfl (by show 2 * 0 + _ ≤ _; exact Nat.le_of_eq rfl) (hb hby own_d1_433) (fun _ _ => ⟨rfl, e101, (by decide : 1 + 0 ≤ _), (by decide : 12 + 0 ≤ _)⟩)
  dsimp only [own_R, Pt.U, Pt.locs, Pt.cells, Pt.slots] at X102 l102 y102 z102 st102 hQ102
  subst y102 z102
  obtain ⟨oc102, hv102, N102q, K102, g102_0, g102_1⟩ := hQ102
  subst hv102
  obtain ⟨h102, e102⟩ : ∃ z, T102.heap = z := ⟨_, rfl⟩
  rw [e102] at K102
  have Xo102 := Xo101.keep K102 all0
  have KK102 := KK101.trans K102 all0
  have N102 : Fr n0 L102 := by rw [l102]; exact Fr.app N0 N102q
  refine own_to ?_ st102
  have F104 := (V101.keep K102 List.not_mem_nil)
  obtain ⟨cl105, Ar105, q105, S105, M105, H105, G105⟩ := id F104
  obtain ⟨T105, h105, X105, e105, W105, st105⟩ := stC X102 hx hZ e102 Ar105 (j := (0 : Int32)) (inb_of S105 ⟨by decide, by decide⟩) (g := (mkF m 436 #[sR oa, sI 12, sI vp, sI vc, sR b101] [(.int oc102), (.int 0), (.ref b101)])) rfl rfl (hb hby own_d1_436)
  rw [own_narC (own_up g102_1)] at W105
  have Xo105 := Xo102.wr W105 ge_b101
  have KK105 := KK102.wr W105 (Or.inr sz_b101)
  have V105 : Arv Z h105 b101 k101 .char (12 : Int32) [(.int oc102), (.int 0), (.int 0), (.int 0), (.int 0), (.int 0), (.int 0), (.int 0), (.int 0), (.int 0), (.int 0), (.int 0)] (.int (0 : Int32)) := Arv.set Ar105 q105 S105 M105 H105 G105 (own_fitC (own_up g102_1)) W105 0 rfl (Nat.le_of_ble_eq_true rfl)
  have N105 := Fr.snoc X105 N102 ge_b101
  refine own_to ?_ st105
  refine own_to (V := T105.setTop (mkF m 444 #[sR oa, sI 12, sI vp, sI vc, sR b101] [(.int vc), (.int vp), (.int 1), (.ref oa), (.int 1), (.ref b101)])) ?_ fun t k => (by
    refine XS.aload X105.here hx rfl (hb hby own_d1_437) rfl rfl ?_
    refine XS.iconst X105.here hx rfl (hb hby own_d1_439) ?_
    refine XS.aloadN X105.here hx rfl (hb hby own_d1_440) rfl rfl ?_
    refine XS.iconst X105.here hx rfl (hb hby own_d1_441) ?_
    refine XS.iloadN X105.here hx rfl (hb hby own_d1_442) rfl ?_
    refine XS.iloadN X105.here hx rfl (hb hby own_d1_443) rfl ?_
    exact k)
  have F107 := ((F103.keep K102 List.not_mem_nil List.not_mem_nil).wr W105 (Nat.ne_of_lt (Nat.lt_of_lt_of_le hS.lt (Nat.le_of_eq g101.symm))) (Nat.ne_of_lt (Nat.lt_of_lt_of_le hS.lt2 (Nat.le_of_eq g101.symm))))
  obtain ⟨_, _, ⟨T106, L106, k106, n106⟩, -, X106, ⟨Lc106, hQ106, l106, y106, z106⟩, st106⟩ := Jvm.LawKit.callS X105 hx (y := own_mn0) hown (mvT hZ (own_i hw 30 rfl)) (mvT hZ (own_i hw 31 rfl)) (mvT hZ (own_i hw 27 rfl)) (mvT hZ (own_i hw 32 rfl)) (by decide) (backOf (W := 2) (own_rmatD1 l Z a0 hw hst [] oa ua vp vc h105 n0 Xo105 F107 hc) hZ (own_i hw 32 rfl) (own_i hw 27 rfl) (by decide) (by decide)) (g := (mkF m 444 #[sR oa, sI 12, sI vp, sI vc, sR b101] [(.int vc), (.int vp), (.int 1), (.ref oa), (.int 1), (.ref b101)])) rfl (by rw [hml]; rfl) (argsL := [(.ref oa), (.int 1), (.int vp), (.int vc)]) (rest := [(.int 1), (.ref b101)]) (lenOf own_pd2 rfl) rfl (by show 2 * 0 + _ ≤ _; exact Nat.le_of_eq rfl) (hb hby own_d1_444) (fun _ _ => ⟨rfl, e105, (by decide : 1 + 0 ≤ _), (by decide : 12 + 0 ≤ _)⟩)
  dsimp only [own_R, Pt.U, Pt.locs, Pt.cells, Pt.slots] at X106 l106 y106 z106 st106 hQ106
  subst y106 z106
  obtain ⟨oc106, hv106, N106q, K106, g106_0, g106_1⟩ := hQ106
  subst hv106
  obtain ⟨h106, e106⟩ : ∃ z, T106.heap = z := ⟨_, rfl⟩
  rw [e106] at K106
  have Xo106 := Xo105.keep K106 all0
  have KK106 := KK105.trans K106 all0
  have N106 : Fr n0 L106 := by rw [l106]; exact Fr.app N105 N106q
  refine own_to ?_ st106
  have F108 := (V105.keep K106 List.not_mem_nil)
  obtain ⟨cl109, Ar109, q109, S109, M109, H109, G109⟩ := id F108
  obtain ⟨T109, h109, X109, e109, W109, st109⟩ := stC X106 hx hZ e106 Ar109 (j := (1 : Int32)) (inb_of S109 ⟨by decide, by decide⟩) (g := (mkF m 447 #[sR oa, sI 12, sI vp, sI vc, sR b101] [(.int oc106), (.int 1), (.ref b101)])) rfl rfl (hb hby own_d1_447)
  rw [own_narC (own_up g106_1)] at W109
  have Xo109 := Xo106.wr W109 ge_b101
  have KK109 := KK106.wr W109 (Or.inr sz_b101)
  have V109 : Arv Z h109 b101 k101 .char (12 : Int32) [(.int oc102), (.int oc106), (.int 0), (.int 0), (.int 0), (.int 0), (.int 0), (.int 0), (.int 0), (.int 0), (.int 0), (.int 0)] (.int (0 : Int32)) := Arv.set Ar109 q109 S109 M109 H109 G109 (own_fitC (own_up g106_1)) W109 1 rfl (Nat.le_of_ble_eq_true rfl)
  have N109 := Fr.snoc X109 N106 ge_b101
  refine own_to ?_ st109
  refine own_to (V := T109.setTop (mkF m 455 #[sR oa, sI 12, sI vp, sI vc, sR b101] [(.int vc), (.int vp), (.int 2), (.ref oa), (.int 2), (.ref b101)])) ?_ fun t k => (by
    refine XS.aload X109.here hx rfl (hb hby own_d1_448) rfl rfl ?_
    refine XS.iconst X109.here hx rfl (hb hby own_d1_450) ?_
    refine XS.aloadN X109.here hx rfl (hb hby own_d1_451) rfl rfl ?_
    refine XS.iconst X109.here hx rfl (hb hby own_d1_452) ?_
    refine XS.iloadN X109.here hx rfl (hb hby own_d1_453) rfl ?_
    refine XS.iloadN X109.here hx rfl (hb hby own_d1_454) rfl ?_
    exact k)
  have F111 := ((F107.keep K106 List.not_mem_nil List.not_mem_nil).wr W109 (Nat.ne_of_lt (Nat.lt_of_lt_of_le hS.lt (Nat.le_of_eq g101.symm))) (Nat.ne_of_lt (Nat.lt_of_lt_of_le hS.lt2 (Nat.le_of_eq g101.symm))))
  obtain ⟨_, _, ⟨T110, L110, k110, n110⟩, -, X110, ⟨Lc110, hQ110, l110, y110, z110⟩, st110⟩ := Jvm.LawKit.callS X109 hx (y := own_mn0) hown (mvT hZ (own_i hw 30 rfl)) (mvT hZ (own_i hw 31 rfl)) (mvT hZ (own_i hw 27 rfl)) (mvT hZ (own_i hw 32 rfl)) (by decide) (backOf (W := 2) (own_rmatD2 l Z a0 hw hst [] oa ua vp vc h109 n0 Xo109 F111 hc) hZ (own_i hw 32 rfl) (own_i hw 27 rfl) (by decide) (by decide)) (g := (mkF m 455 #[sR oa, sI 12, sI vp, sI vc, sR b101] [(.int vc), (.int vp), (.int 2), (.ref oa), (.int 2), (.ref b101)])) rfl (by rw [hml]; rfl) (argsL := [(.ref oa), (.int 2), (.int vp), (.int vc)]) (rest := [(.int 2), (.ref b101)]) (lenOf own_pd2 rfl) rfl (by show 2 * 0 + _ ≤ _; exact Nat.le_of_eq rfl) (hb hby own_d1_455) (fun _ _ => ⟨rfl, e109, (by decide : 1 + 0 ≤ _), (by decide : 12 + 0 ≤ _)⟩)
  dsimp only [own_R, Pt.U, Pt.locs, Pt.cells, Pt.slots] at X110 l110 y110 z110 st110 hQ110
  subst y110 z110
  obtain ⟨oc110, hv110, N110q, K110, g110_0, g110_1⟩ := hQ110
  subst hv110
  obtain ⟨h110, e110⟩ : ∃ z, T110.heap = z := ⟨_, rfl⟩
  rw [e110] at K110
  have Xo110 := Xo109.keep K110 all0
  have KK110 := KK109.trans K110 all0
  have N110 : Fr n0 L110 := by rw [l110]; exact Fr.app N109 N110q
  refine own_to ?_ st110
  have F112 := (V109.keep K110 List.not_mem_nil)
  obtain ⟨cl113, Ar113, q113, S113, M113, H113, G113⟩ := id F112
  obtain ⟨T113, h113, X113, e113, W113, st113⟩ := stC X110 hx hZ e110 Ar113 (j := (2 : Int32)) (inb_of S113 ⟨by decide, by decide⟩) (g := (mkF m 458 #[sR oa, sI 12, sI vp, sI vc, sR b101] [(.int oc110), (.int 2), (.ref b101)])) rfl rfl (hb hby own_d1_458)
  rw [own_narC (own_up g110_1)] at W113
  have Xo113 := Xo110.wr W113 ge_b101
  have KK113 := KK110.wr W113 (Or.inr sz_b101)
  have V113 : Arv Z h113 b101 k101 .char (12 : Int32) [(.int oc102), (.int oc106), (.int oc110), (.int 0), (.int 0), (.int 0), (.int 0), (.int 0), (.int 0), (.int 0), (.int 0), (.int 0)] (.int (0 : Int32)) := Arv.set Ar113 q113 S113 M113 H113 G113 (own_fitC (own_up g110_1)) W113 2 rfl (Nat.le_of_ble_eq_true rfl)
  have N113 := Fr.snoc X113 N110 ge_b101
  refine own_to ?_ st113
  refine own_to (V := T113.setTop (mkF m 466 #[sR oa, sI 12, sI vp, sI vc, sR b101] [(.int vc), (.int vp), (.int 3), (.ref oa), (.int 3), (.ref b101)])) ?_ fun t k => (by
    refine XS.aload X113.here hx rfl (hb hby own_d1_459) rfl rfl ?_
    refine XS.iconst X113.here hx rfl (hb hby own_d1_461) ?_
    refine XS.aloadN X113.here hx rfl (hb hby own_d1_462) rfl rfl ?_
    refine XS.iconst X113.here hx rfl (hb hby own_d1_463) ?_
    refine XS.iloadN X113.here hx rfl (hb hby own_d1_464) rfl ?_
    refine XS.iloadN X113.here hx rfl (hb hby own_d1_465) rfl ?_
    exact k)
  have F115 := ((F111.keep K110 List.not_mem_nil List.not_mem_nil).wr W113 (Nat.ne_of_lt (Nat.lt_of_lt_of_le hS.lt (Nat.le_of_eq g101.symm))) (Nat.ne_of_lt (Nat.lt_of_lt_of_le hS.lt2 (Nat.le_of_eq g101.symm))))
  obtain ⟨_, _, ⟨T114, L114, k114, n114⟩, -, X114, ⟨Lc114, hQ114, l114, y114, z114⟩, st114⟩ := Jvm.LawKit.callS X113 hx (y := own_mn0) hown (mvT hZ (own_i hw 30 rfl)) (mvT hZ (own_i hw 31 rfl)) (mvT hZ (own_i hw 27 rfl)) (mvT hZ (own_i hw 32 rfl)) (by decide) (backOf (W := 2) (own_rmatD3 l Z a0 hw hst [] oa ua vp vc h113 n0 Xo113 F115 hc) hZ (own_i hw 32 rfl) (own_i hw 27 rfl) (by decide) (by decide)) (g := (mkF m 466 #[sR oa, sI 12, sI vp, sI vc, sR b101] [(.int vc), (.int vp), (.int 3), (.ref oa), (.int 3), (.ref b101)])) rfl (by rw [hml]; rfl) (argsL := [(.ref oa), (.int 3), (.int vp), (.int vc)]) (rest := [(.int 3), (.ref b101)]) (lenOf own_pd2 rfl) rfl (by show 2 * 0 + _ ≤ _; exact Nat.le_of_eq rfl) (hb hby own_d1_466) (fun _ _ => ⟨rfl, e113, (by decide : 1 + 0 ≤ _), (by decide : 12 + 0 ≤ _)⟩)
  dsimp only [own_R, Pt.U, Pt.locs, Pt.cells, Pt.slots] at X114 l114 y114 z114 st114 hQ114
  subst y114 z114
  obtain ⟨oc114, hv114, N114q, K114, g114_0, g114_1⟩ := hQ114
  subst hv114
  obtain ⟨h114, e114⟩ : ∃ z, T114.heap = z := ⟨_, rfl⟩
  rw [e114] at K114
  have Xo114 := Xo113.keep K114 all0
  have KK114 := KK113.trans K114 all0
  have N114 : Fr n0 L114 := by rw [l114]; exact Fr.app N113 N114q
  refine own_to ?_ st114
  have F116 := (V113.keep K114 List.not_mem_nil)
  obtain ⟨cl117, Ar117, q117, S117, M117, H117, G117⟩ := id F116
  obtain ⟨T117, h117, X117, e117, W117, st117⟩ := stC X114 hx hZ e114 Ar117 (j := (3 : Int32)) (inb_of S117 ⟨by decide, by decide⟩) (g := (mkF m 469 #[sR oa, sI 12, sI vp, sI vc, sR b101] [(.int oc114), (.int 3), (.ref b101)])) rfl rfl (hb hby own_d1_469)
  rw [own_narC (own_up g114_1)] at W117
  have Xo117 := Xo114.wr W117 ge_b101
  have KK117 := KK114.wr W117 (Or.inr sz_b101)
  have V117 : Arv Z h117 b101 k101 .char (12 : Int32) [(.int oc102), (.int oc106), (.int oc110), (.int oc114), (.int 0), (.int 0), (.int 0), (.int 0), (.int 0), (.int 0), (.int 0), (.int 0)] (.int (0 : Int32)) := Arv.set Ar117 q117 S117 M117 H117 G117 (own_fitC (own_up g114_1)) W117 3 rfl (Nat.le_of_ble_eq_true rfl)
  have N117 := Fr.snoc X117 N114 ge_b101
  refine own_to ?_ st117
  refine own_to (V := T117.setTop (mkF m 477 #[sR oa, sI 12, sI vp, sI vc, sR b101] [(.int vc), (.int vp), (.int 4), (.ref oa), (.int 4), (.ref b101)])) ?_ fun t k => (by
    refine XS.aload X117.here hx rfl (hb hby own_d1_470) rfl rfl ?_
    refine XS.iconst X117.here hx rfl (hb hby own_d1_472) ?_
    refine XS.aloadN X117.here hx rfl (hb hby own_d1_473) rfl rfl ?_
    refine XS.iconst X117.here hx rfl (hb hby own_d1_474) ?_
    refine XS.iloadN X117.here hx rfl (hb hby own_d1_475) rfl ?_
    refine XS.iloadN X117.here hx rfl (hb hby own_d1_476) rfl ?_
    exact k)
  have F119 := ((F115.keep K114 List.not_mem_nil List.not_mem_nil).wr W117 (Nat.ne_of_lt (Nat.lt_of_lt_of_le hS.lt (Nat.le_of_eq g101.symm))) (Nat.ne_of_lt (Nat.lt_of_lt_of_le hS.lt2 (Nat.le_of_eq g101.symm))))
  obtain ⟨_, _, ⟨T118, L118, k118, n118⟩, -, X118, ⟨Lc118, hQ118, l118, y118, z118⟩, st118⟩ := Jvm.LawKit.callS X117 hx (y := own_mn0) hown (mvT hZ (own_i hw 30 rfl)) (mvT hZ (own_i hw 31 rfl)) (mvT hZ (own_i hw 27 rfl)) (mvT hZ (own_i hw 32 rfl)) (by decide) (backOf (W := 2) (own_rmatD4 l Z a0 hw hst [] oa ua vp vc h117 n0 Xo117 F119 hc) hZ (own_i hw 32 rfl) (own_i hw 27 rfl) (by decide) (by decide)) (g := (mkF m 477 #[sR oa, sI 12, sI vp, sI vc, sR b101] [(.int vc), (.int vp), (.int 4), (.ref oa), (.int 4), (.ref b101)])) rfl (by rw [hml]; rfl) (argsL := [(.ref oa), (.int 4), (.int vp), (.int vc)]) (rest := [(.int 4), (.ref b101)]) (lenOf own_pd2 rfl) rfl (by show 2 * 0 + _ ≤ _; exact Nat.le_of_eq rfl) (hb hby own_d1_477) (fun _ _ => ⟨rfl, e117, (by decide : 1 + 0 ≤ _), (by decide : 12 + 0 ≤ _)⟩)
  dsimp only [own_R, Pt.U, Pt.locs, Pt.cells, Pt.slots] at X118 l118 y118 z118 st118 hQ118
  subst y118 z118
  obtain ⟨oc118, hv118, N118q, K118, g118_0, g118_1⟩ := hQ118
  subst hv118
  obtain ⟨h118, e118⟩ : ∃ z, T118.heap = z := ⟨_, rfl⟩
  rw [e118] at K118
  have Xo118 := Xo117.keep K118 all0
  have KK118 := KK117.trans K118 all0
  have N118 : Fr n0 L118 := by rw [l118]; exact Fr.app N117 N118q
  refine own_to ?_ st118
  have F120 := (V117.keep K118 List.not_mem_nil)
  obtain ⟨cl121, Ar121, q121, S121, M121, H121, G121⟩ := id F120
  obtain ⟨T121, h121, X121, e121, W121, st121⟩ := stC X118 hx hZ e118 Ar121 (j := (4 : Int32)) (inb_of S121 ⟨by decide, by decide⟩) (g := (mkF m 480 #[sR oa, sI 12, sI vp, sI vc, sR b101] [(.int oc118), (.int 4), (.ref b101)])) rfl rfl (hb hby own_d1_480)
  rw [own_narC (own_up g118_1)] at W121
  have Xo121 := Xo118.wr W121 ge_b101
  have KK121 := KK118.wr W121 (Or.inr sz_b101)
  have V121 : Arv Z h121 b101 k101 .char (12 : Int32) [(.int oc102), (.int oc106), (.int oc110), (.int oc114), (.int oc118), (.int 0), (.int 0), (.int 0), (.int 0), (.int 0), (.int 0), (.int 0)] (.int (0 : Int32)) := Arv.set Ar121 q121 S121 M121 H121 G121 (own_fitC (own_up g118_1)) W121 4 rfl (Nat.le_of_ble_eq_true rfl)
  have N121 := Fr.snoc X121 N118 ge_b101
  refine own_to ?_ st121
  refine own_to (V := T121.setTop (mkF m 488 #[sR oa, sI 12, sI vp, sI vc, sR b101] [(.int vc), (.int vp), (.int 5), (.ref oa), (.int 5), (.ref b101)])) ?_ fun t k => (by
    refine XS.aload X121.here hx rfl (hb hby own_d1_481) rfl rfl ?_
    refine XS.iconst X121.here hx rfl (hb hby own_d1_483) ?_
    refine XS.aloadN X121.here hx rfl (hb hby own_d1_484) rfl rfl ?_
    refine XS.iconst X121.here hx rfl (hb hby own_d1_485) ?_
    refine XS.iloadN X121.here hx rfl (hb hby own_d1_486) rfl ?_
    refine XS.iloadN X121.here hx rfl (hb hby own_d1_487) rfl ?_
    exact k)
  have F123 := ((F119.keep K118 List.not_mem_nil List.not_mem_nil).wr W121 (Nat.ne_of_lt (Nat.lt_of_lt_of_le hS.lt (Nat.le_of_eq g101.symm))) (Nat.ne_of_lt (Nat.lt_of_lt_of_le hS.lt2 (Nat.le_of_eq g101.symm))))
  obtain ⟨_, _, ⟨T122, L122, k122, n122⟩, -, X122, ⟨Lc122, hQ122, l122, y122, z122⟩, st122⟩ := Jvm.LawKit.callS X121 hx (y := own_mn0) hown (mvT hZ (own_i hw 30 rfl)) (mvT hZ (own_i hw 31 rfl)) (mvT hZ (own_i hw 27 rfl)) (mvT hZ (own_i hw 32 rfl)) (by decide) (backOf (W := 2) (own_rmatD5 l Z a0 hw hst [] oa ua vp vc h121 n0 Xo121 F123 hc) hZ (own_i hw 32 rfl) (own_i hw 27 rfl) (by decide) (by decide)) (g := (mkF m 488 #[sR oa, sI 12, sI vp, sI vc, sR b101] [(.int vc), (.int vp), (.int 5), (.ref oa), (.int 5), (.ref b101)])) rfl (by rw [hml]; rfl) (argsL := [(.ref oa), (.int 5), (.int vp), (.int vc)]) (rest := [(.int 5), (.ref b101)]) (lenOf own_pd2 rfl) rfl (by show 2 * 0 + _ ≤ _; exact Nat.le_of_eq rfl) (hb hby own_d1_488) (fun _ _ => ⟨rfl, e121, (by decide : 1 + 0 ≤ _), (by decide : 12 + 0 ≤ _)⟩)
  dsimp only [own_R, Pt.U, Pt.locs, Pt.cells, Pt.slots] at X122 l122 y122 z122 st122 hQ122
  subst y122 z122
  obtain ⟨oc122, hv122, N122q, K122, g122_0, g122_1⟩ := hQ122
  subst hv122
  obtain ⟨h122, e122⟩ : ∃ z, T122.heap = z := ⟨_, rfl⟩
  rw [e122] at K122
  have Xo122 := Xo121.keep K122 all0
  have KK122 := KK121.trans K122 all0
  have N122 : Fr n0 L122 := by rw [l122]; exact Fr.app N121 N122q
  refine own_to ?_ st122
  have F124 := (V121.keep K122 List.not_mem_nil)
  obtain ⟨cl125, Ar125, q125, S125, M125, H125, G125⟩ := id F124
  obtain ⟨T125, h125, X125, e125, W125, st125⟩ := stC X122 hx hZ e122 Ar125 (j := (5 : Int32)) (inb_of S125 ⟨by decide, by decide⟩) (g := (mkF m 491 #[sR oa, sI 12, sI vp, sI vc, sR b101] [(.int oc122), (.int 5), (.ref b101)])) rfl rfl (hb hby own_d1_491)
  rw [own_narC (own_up g122_1)] at W125
  have Xo125 := Xo122.wr W125 ge_b101
  have KK125 := KK122.wr W125 (Or.inr sz_b101)
  have V125 : Arv Z h125 b101 k101 .char (12 : Int32) [(.int oc102), (.int oc106), (.int oc110), (.int oc114), (.int oc118), (.int oc122), (.int 0), (.int 0), (.int 0), (.int 0), (.int 0), (.int 0)] (.int (0 : Int32)) := Arv.set Ar125 q125 S125 M125 H125 G125 (own_fitC (own_up g122_1)) W125 5 rfl (Nat.le_of_ble_eq_true rfl)
  have N125 := Fr.snoc X125 N122 ge_b101
  refine own_to ?_ st125
  refine own_to (V := T125.setTop (mkF m 501 #[sR oa, sI 12, sI vp, sI vc, sR b101] [(.int vc), (.int vp), (.int 6), (.ref oa), (.int 6), (.ref b101)])) ?_ fun t k => (by
    refine XS.aload X125.here hx rfl (hb hby own_d1_492) rfl rfl ?_
    refine XS.bipush X125.here hx rfl (hb hby own_d1_494) ?_
    refine XS.aloadN X125.here hx rfl (hb hby own_d1_496) rfl rfl ?_
    refine XS.bipush X125.here hx rfl (hb hby own_d1_497) ?_
    refine XS.iloadN X125.here hx rfl (hb hby own_d1_499) rfl ?_
    refine XS.iloadN X125.here hx rfl (hb hby own_d1_500) rfl ?_
    exact k)
  have F127 := ((F123.keep K122 List.not_mem_nil List.not_mem_nil).wr W125 (Nat.ne_of_lt (Nat.lt_of_lt_of_le hS.lt (Nat.le_of_eq g101.symm))) (Nat.ne_of_lt (Nat.lt_of_lt_of_le hS.lt2 (Nat.le_of_eq g101.symm))))
  obtain ⟨_, _, ⟨T126, L126, k126, n126⟩, -, X126, ⟨Lc126, hQ126, l126, y126, z126⟩, st126⟩ := Jvm.LawKit.callS X125 hx (y := own_mn0) hown (mvT hZ (own_i hw 30 rfl)) (mvT hZ (own_i hw 31 rfl)) (mvT hZ (own_i hw 27 rfl)) (mvT hZ (own_i hw 32 rfl)) (by decide) (backOf (W := 2) (own_rmatD6 l Z a0 hw hst [] oa ua vp vc h125 n0 Xo125 F127 hc) hZ (own_i hw 32 rfl) (own_i hw 27 rfl) (by decide) (by decide)) (g := (mkF m 501 #[sR oa, sI 12, sI vp, sI vc, sR b101] [(.int vc), (.int vp), (.int 6), (.ref oa), (.int 6), (.ref b101)])) rfl (by rw [hml]; rfl) (argsL := [(.ref oa), (.int 6), (.int vp), (.int vc)]) (rest := [(.int 6), (.ref b101)]) (lenOf own_pd2 rfl) rfl (by show 2 * 0 + _ ≤ _; exact Nat.le_of_eq rfl) (hb hby own_d1_501) (fun _ _ => ⟨rfl, e125, (by decide : 1 + 0 ≤ _), (by decide : 12 + 0 ≤ _)⟩)
  dsimp only [own_R, Pt.U, Pt.locs, Pt.cells, Pt.slots] at X126 l126 y126 z126 st126 hQ126
  subst y126 z126
  obtain ⟨oc126, hv126, N126q, K126, g126_0, g126_1⟩ := hQ126
  subst hv126
  obtain ⟨h126, e126⟩ : ∃ z, T126.heap = z := ⟨_, rfl⟩
  rw [e126] at K126
  have Xo126 := Xo125.keep K126 all0
  have KK126 := KK125.trans K126 all0
  have N126 : Fr n0 L126 := by rw [l126]; exact Fr.app N125 N126q
  refine own_to ?_ st126
  have F128 := (V125.keep K126 List.not_mem_nil)
  obtain ⟨cl129, Ar129, q129, S129, M129, H129, G129⟩ := id F128
  obtain ⟨T129, h129, X129, e129, W129, st129⟩ := stC X126 hx hZ e126 Ar129 (j := (6 : Int32)) (inb_of S129 ⟨by decide, by decide⟩) (g := (mkF m 504 #[sR oa, sI 12, sI vp, sI vc, sR b101] [(.int oc126), (.int 6), (.ref b101)])) rfl rfl (hb hby own_d1_504)
  rw [own_narC (own_up g126_1)] at W129
  have Xo129 := Xo126.wr W129 ge_b101
  have KK129 := KK126.wr W129 (Or.inr sz_b101)
  have V129 : Arv Z h129 b101 k101 .char (12 : Int32) [(.int oc102), (.int oc106), (.int oc110), (.int oc114), (.int oc118), (.int oc122), (.int oc126), (.int 0), (.int 0), (.int 0), (.int 0), (.int 0)] (.int (0 : Int32)) := Arv.set Ar129 q129 S129 M129 H129 G129 (own_fitC (own_up g126_1)) W129 6 rfl (Nat.le_of_ble_eq_true rfl)
  have N129 := Fr.snoc X129 N126 ge_b101
  refine own_to ?_ st129
  refine own_to (V := T129.setTop (mkF m 514 #[sR oa, sI 12, sI vp, sI vc, sR b101] [(.int vc), (.int vp), (.int 7), (.ref oa), (.int 7), (.ref b101)])) ?_ fun t k => (by
    refine XS.aload X129.here hx rfl (hb hby own_d1_505) rfl rfl ?_
    refine XS.bipush X129.here hx rfl (hb hby own_d1_507) ?_
    refine XS.aloadN X129.here hx rfl (hb hby own_d1_509) rfl rfl ?_
    refine XS.bipush X129.here hx rfl (hb hby own_d1_510) ?_
    refine XS.iloadN X129.here hx rfl (hb hby own_d1_512) rfl ?_
    refine XS.iloadN X129.here hx rfl (hb hby own_d1_513) rfl ?_
    exact k)
  have F131 := ((F127.keep K126 List.not_mem_nil List.not_mem_nil).wr W129 (Nat.ne_of_lt (Nat.lt_of_lt_of_le hS.lt (Nat.le_of_eq g101.symm))) (Nat.ne_of_lt (Nat.lt_of_lt_of_le hS.lt2 (Nat.le_of_eq g101.symm))))
  obtain ⟨_, _, ⟨T130, L130, k130, n130⟩, -, X130, ⟨Lc130, hQ130, l130, y130, z130⟩, st130⟩ := Jvm.LawKit.callS X129 hx (y := own_mn0) hown (mvT hZ (own_i hw 30 rfl)) (mvT hZ (own_i hw 31 rfl)) (mvT hZ (own_i hw 27 rfl)) (mvT hZ (own_i hw 32 rfl)) (by decide) (backOf (W := 2) (own_rmatD7 l Z a0 hw hst [] oa ua vp vc h129 n0 Xo129 F131 hc) hZ (own_i hw 32 rfl) (own_i hw 27 rfl) (by decide) (by decide)) (g := (mkF m 514 #[sR oa, sI 12, sI vp, sI vc, sR b101] [(.int vc), (.int vp), (.int 7), (.ref oa), (.int 7), (.ref b101)])) rfl (by rw [hml]; rfl) (argsL := [(.ref oa), (.int 7), (.int vp), (.int vc)]) (rest := [(.int 7), (.ref b101)]) (lenOf own_pd2 rfl) rfl (by show 2 * 0 + _ ≤ _; exact Nat.le_of_eq rfl) (hb hby own_d1_514) (fun _ _ => ⟨rfl, e129, (by decide : 1 + 0 ≤ _), (by decide : 12 + 0 ≤ _)⟩)
  dsimp only [own_R, Pt.U, Pt.locs, Pt.cells, Pt.slots] at X130 l130 y130 z130 st130 hQ130
  subst y130 z130
  obtain ⟨oc130, hv130, N130q, K130, g130_0, g130_1⟩ := hQ130
  subst hv130
  obtain ⟨h130, e130⟩ : ∃ z, T130.heap = z := ⟨_, rfl⟩
  rw [e130] at K130
  have Xo130 := Xo129.keep K130 all0
  have KK130 := KK129.trans K130 all0
  have N130 : Fr n0 L130 := by rw [l130]; exact Fr.app N129 N130q
  refine own_to ?_ st130
  have F132 := (V129.keep K130 List.not_mem_nil)
  obtain ⟨cl133, Ar133, q133, S133, M133, H133, G133⟩ := id F132
  obtain ⟨T133, h133, X133, e133, W133, st133⟩ := stC X130 hx hZ e130 Ar133 (j := (7 : Int32)) (inb_of S133 ⟨by decide, by decide⟩) (g := (mkF m 517 #[sR oa, sI 12, sI vp, sI vc, sR b101] [(.int oc130), (.int 7), (.ref b101)])) rfl rfl (hb hby own_d1_517)
  rw [own_narC (own_up g130_1)] at W133
  have Xo133 := Xo130.wr W133 ge_b101
  have KK133 := KK130.wr W133 (Or.inr sz_b101)
  have V133 : Arv Z h133 b101 k101 .char (12 : Int32) [(.int oc102), (.int oc106), (.int oc110), (.int oc114), (.int oc118), (.int oc122), (.int oc126), (.int oc130), (.int 0), (.int 0), (.int 0), (.int 0)] (.int (0 : Int32)) := Arv.set Ar133 q133 S133 M133 H133 G133 (own_fitC (own_up g130_1)) W133 7 rfl (Nat.le_of_ble_eq_true rfl)
  have N133 := Fr.snoc X133 N130 ge_b101
  refine own_to ?_ st133
  refine own_to (V := T133.setTop (mkF m 527 #[sR oa, sI 12, sI vp, sI vc, sR b101] [(.int vc), (.int vp), (.int 8), (.ref oa), (.int 8), (.ref b101)])) ?_ fun t k => (by
    refine XS.aload X133.here hx rfl (hb hby own_d1_518) rfl rfl ?_
    refine XS.bipush X133.here hx rfl (hb hby own_d1_520) ?_
    refine XS.aloadN X133.here hx rfl (hb hby own_d1_522) rfl rfl ?_
    refine XS.bipush X133.here hx rfl (hb hby own_d1_523) ?_
    refine XS.iloadN X133.here hx rfl (hb hby own_d1_525) rfl ?_
    refine XS.iloadN X133.here hx rfl (hb hby own_d1_526) rfl ?_
    exact k)
  have F135 := ((F131.keep K130 List.not_mem_nil List.not_mem_nil).wr W133 (Nat.ne_of_lt (Nat.lt_of_lt_of_le hS.lt (Nat.le_of_eq g101.symm))) (Nat.ne_of_lt (Nat.lt_of_lt_of_le hS.lt2 (Nat.le_of_eq g101.symm))))
  obtain ⟨_, _, ⟨T134, L134, k134, n134⟩, -, X134, ⟨Lc134, hQ134, l134, y134, z134⟩, st134⟩ := Jvm.LawKit.callS X133 hx (y := own_mn0) hown (mvT hZ (own_i hw 30 rfl)) (mvT hZ (own_i hw 31 rfl)) (mvT hZ (own_i hw 27 rfl)) (mvT hZ (own_i hw 32 rfl)) (by decide) (backOf (W := 2) (own_rmatD8 l Z a0 hw hst [] oa ua vp vc h133 n0 Xo133 F135 hc) hZ (own_i hw 32 rfl) (own_i hw 27 rfl) (by decide) (by decide)) (g := (mkF m 527 #[sR oa, sI 12, sI vp, sI vc, sR b101] [(.int vc), (.int vp), (.int 8), (.ref oa), (.int 8), (.ref b101)])) rfl (by rw [hml]; rfl) (argsL := [(.ref oa), (.int 8), (.int vp), (.int vc)]) (rest := [(.int 8), (.ref b101)]) (lenOf own_pd2 rfl) rfl (by show 2 * 0 + _ ≤ _; exact Nat.le_of_eq rfl) (hb hby own_d1_527) (fun _ _ => ⟨rfl, e133, (by decide : 1 + 0 ≤ _), (by decide : 12 + 0 ≤ _)⟩)
  dsimp only [own_R, Pt.U, Pt.locs, Pt.cells, Pt.slots] at X134 l134 y134 z134 st134 hQ134
  subst y134 z134
  obtain ⟨oc134, hv134, N134q, K134, g134_0, g134_1⟩ := hQ134
  subst hv134
  obtain ⟨h134, e134⟩ : ∃ z, T134.heap = z := ⟨_, rfl⟩
  rw [e134] at K134
  have Xo134 := Xo133.keep K134 all0
  have KK134 := KK133.trans K134 all0
  have N134 : Fr n0 L134 := by rw [l134]; exact Fr.app N133 N134q
  refine own_to ?_ st134
  have F136 := (V133.keep K134 List.not_mem_nil)
  obtain ⟨cl137, Ar137, q137, S137, M137, H137, G137⟩ := id F136
  obtain ⟨T137, h137, X137, e137, W137, st137⟩ := stC X134 hx hZ e134 Ar137 (j := (8 : Int32)) (inb_of S137 ⟨by decide, by decide⟩) (g := (mkF m 530 #[sR oa, sI 12, sI vp, sI vc, sR b101] [(.int oc134), (.int 8), (.ref b101)])) rfl rfl (hb hby own_d1_530)
  rw [own_narC (own_up g134_1)] at W137
  have Xo137 := Xo134.wr W137 ge_b101
  have KK137 := KK134.wr W137 (Or.inr sz_b101)
  have V137 : Arv Z h137 b101 k101 .char (12 : Int32) [(.int oc102), (.int oc106), (.int oc110), (.int oc114), (.int oc118), (.int oc122), (.int oc126), (.int oc130), (.int oc134), (.int 0), (.int 0), (.int 0)] (.int (0 : Int32)) := Arv.set Ar137 q137 S137 M137 H137 G137 (own_fitC (own_up g134_1)) W137 8 rfl (Nat.le_of_ble_eq_true rfl)
  have N137 := Fr.snoc X137 N134 ge_b101
  refine own_to ?_ st137
  refine own_to (V := T137.setTop (mkF m 540 #[sR oa, sI 12, sI vp, sI vc, sR b101] [(.int vc), (.int vp), (.int 9), (.ref oa), (.int 9), (.ref b101)])) ?_ fun t k => (by
    refine XS.aload X137.here hx rfl (hb hby own_d1_531) rfl rfl ?_
    refine XS.bipush X137.here hx rfl (hb hby own_d1_533) ?_
    refine XS.aloadN X137.here hx rfl (hb hby own_d1_535) rfl rfl ?_
    refine XS.bipush X137.here hx rfl (hb hby own_d1_536) ?_
    refine XS.iloadN X137.here hx rfl (hb hby own_d1_538) rfl ?_
    refine XS.iloadN X137.here hx rfl (hb hby own_d1_539) rfl ?_
    exact k)
  have F139 := ((F135.keep K134 List.not_mem_nil List.not_mem_nil).wr W137 (Nat.ne_of_lt (Nat.lt_of_lt_of_le hS.lt (Nat.le_of_eq g101.symm))) (Nat.ne_of_lt (Nat.lt_of_lt_of_le hS.lt2 (Nat.le_of_eq g101.symm))))
  obtain ⟨_, _, ⟨T138, L138, k138, n138⟩, -, X138, ⟨Lc138, hQ138, l138, y138, z138⟩, st138⟩ := Jvm.LawKit.callS X137 hx (y := own_mn0) hown (mvT hZ (own_i hw 30 rfl)) (mvT hZ (own_i hw 31 rfl)) (mvT hZ (own_i hw 27 rfl)) (mvT hZ (own_i hw 32 rfl)) (by decide) (backOf (W := 2) (own_rmatD9 l Z a0 hw hst [] oa ua vp vc h137 n0 Xo137 F139 hc) hZ (own_i hw 32 rfl) (own_i hw 27 rfl) (by decide) (by decide)) (g := (mkF m 540 #[sR oa, sI 12, sI vp, sI vc, sR b101] [(.int vc), (.int vp), (.int 9), (.ref oa), (.int 9), (.ref b101)])) rfl (by rw [hml]; rfl) (argsL := [(.ref oa), (.int 9), (.int vp), (.int vc)]) (rest := [(.int 9), (.ref b101)]) (lenOf own_pd2 rfl) rfl (by show 2 * 0 + _ ≤ _; exact Nat.le_of_eq rfl) (hb hby own_d1_540) (fun _ _ => ⟨rfl, e137, (by decide : 1 + 0 ≤ _), (by decide : 12 + 0 ≤ _)⟩)
  dsimp only [own_R, Pt.U, Pt.locs, Pt.cells, Pt.slots] at X138 l138 y138 z138 st138 hQ138
  subst y138 z138
  obtain ⟨oc138, hv138, N138q, K138, g138_0, g138_1⟩ := hQ138
  subst hv138
  obtain ⟨h138, e138⟩ : ∃ z, T138.heap = z := ⟨_, rfl⟩
  rw [e138] at K138
  have Xo138 := Xo137.keep K138 all0
  have KK138 := KK137.trans K138 all0
  have N138 : Fr n0 L138 := by rw [l138]; exact Fr.app N137 N138q
  refine own_to ?_ st138
  have F140 := (V137.keep K138 List.not_mem_nil)
  obtain ⟨cl141, Ar141, q141, S141, M141, H141, G141⟩ := id F140
  obtain ⟨T141, h141, X141, e141, W141, st141⟩ := stC X138 hx hZ e138 Ar141 (j := (9 : Int32)) (inb_of S141 ⟨by decide, by decide⟩) (g := (mkF m 543 #[sR oa, sI 12, sI vp, sI vc, sR b101] [(.int oc138), (.int 9), (.ref b101)])) rfl rfl (hb hby own_d1_543)
  rw [own_narC (own_up g138_1)] at W141
  have Xo141 := Xo138.wr W141 ge_b101
  have KK141 := KK138.wr W141 (Or.inr sz_b101)
  have V141 : Arv Z h141 b101 k101 .char (12 : Int32) [(.int oc102), (.int oc106), (.int oc110), (.int oc114), (.int oc118), (.int oc122), (.int oc126), (.int oc130), (.int oc134), (.int oc138), (.int 0), (.int 0)] (.int (0 : Int32)) := Arv.set Ar141 q141 S141 M141 H141 G141 (own_fitC (own_up g138_1)) W141 9 rfl (Nat.le_of_ble_eq_true rfl)
  have N141 := Fr.snoc X141 N138 ge_b101
  refine own_to ?_ st141
  refine own_to (V := T141.setTop (mkF m 553 #[sR oa, sI 12, sI vp, sI vc, sR b101] [(.int vc), (.int vp), (.int 10), (.ref oa), (.int 10), (.ref b101)])) ?_ fun t k => (by
    refine XS.aload X141.here hx rfl (hb hby own_d1_544) rfl rfl ?_
    refine XS.bipush X141.here hx rfl (hb hby own_d1_546) ?_
    refine XS.aloadN X141.here hx rfl (hb hby own_d1_548) rfl rfl ?_
    refine XS.bipush X141.here hx rfl (hb hby own_d1_549) ?_
    refine XS.iloadN X141.here hx rfl (hb hby own_d1_551) rfl ?_
    refine XS.iloadN X141.here hx rfl (hb hby own_d1_552) rfl ?_
    exact k)
  have F143 := ((F139.keep K138 List.not_mem_nil List.not_mem_nil).wr W141 (Nat.ne_of_lt (Nat.lt_of_lt_of_le hS.lt (Nat.le_of_eq g101.symm))) (Nat.ne_of_lt (Nat.lt_of_lt_of_le hS.lt2 (Nat.le_of_eq g101.symm))))
  obtain ⟨_, _, ⟨T142, L142, k142, n142⟩, -, X142, ⟨Lc142, hQ142, l142, y142, z142⟩, st142⟩ := Jvm.LawKit.callS X141 hx (y := own_mn0) hown (mvT hZ (own_i hw 30 rfl)) (mvT hZ (own_i hw 31 rfl)) (mvT hZ (own_i hw 27 rfl)) (mvT hZ (own_i hw 32 rfl)) (by decide) (backOf (W := 2) (own_rmatD10 l Z a0 hw hst [] oa ua vp vc h141 n0 Xo141 F143 hc) hZ (own_i hw 32 rfl) (own_i hw 27 rfl) (by decide) (by decide)) (g := (mkF m 553 #[sR oa, sI 12, sI vp, sI vc, sR b101] [(.int vc), (.int vp), (.int 10), (.ref oa), (.int 10), (.ref b101)])) rfl (by rw [hml]; rfl) (argsL := [(.ref oa), (.int 10), (.int vp), (.int vc)]) (rest := [(.int 10), (.ref b101)]) (lenOf own_pd2 rfl) rfl (by show 2 * 0 + _ ≤ _; exact Nat.le_of_eq rfl) (hb hby own_d1_553) (fun _ _ => ⟨rfl, e141, (by decide : 1 + 0 ≤ _), (by decide : 12 + 0 ≤ _)⟩)
  dsimp only [own_R, Pt.U, Pt.locs, Pt.cells, Pt.slots] at X142 l142 y142 z142 st142 hQ142
  subst y142 z142
  obtain ⟨oc142, hv142, N142q, K142, g142_0, g142_1⟩ := hQ142
  subst hv142
  obtain ⟨h142, e142⟩ : ∃ z, T142.heap = z := ⟨_, rfl⟩
  rw [e142] at K142
  have Xo142 := Xo141.keep K142 all0
  have KK142 := KK141.trans K142 all0
  have N142 : Fr n0 L142 := by rw [l142]; exact Fr.app N141 N142q
  refine own_to ?_ st142
  have F144 := (V141.keep K142 List.not_mem_nil)
  obtain ⟨cl145, Ar145, q145, S145, M145, H145, G145⟩ := id F144
  obtain ⟨T145, h145, X145, e145, W145, st145⟩ := stC X142 hx hZ e142 Ar145 (j := (10 : Int32)) (inb_of S145 ⟨by decide, by decide⟩) (g := (mkF m 556 #[sR oa, sI 12, sI vp, sI vc, sR b101] [(.int oc142), (.int 10), (.ref b101)])) rfl rfl (hb hby own_d1_556)
  rw [own_narC (own_up g142_1)] at W145
  have Xo145 := Xo142.wr W145 ge_b101
  have KK145 := KK142.wr W145 (Or.inr sz_b101)
  have V145 : Arv Z h145 b101 k101 .char (12 : Int32) [(.int oc102), (.int oc106), (.int oc110), (.int oc114), (.int oc118), (.int oc122), (.int oc126), (.int oc130), (.int oc134), (.int oc138), (.int oc142), (.int 0)] (.int (0 : Int32)) := Arv.set Ar145 q145 S145 M145 H145 G145 (own_fitC (own_up g142_1)) W145 10 rfl (Nat.le_of_ble_eq_true rfl)
  have N145 := Fr.snoc X145 N142 ge_b101
  refine own_to ?_ st145
  refine own_to (V := T145.setTop (mkF m 566 #[sR oa, sI 12, sI vp, sI vc, sR b101] [(.int vc), (.int vp), (.int 11), (.ref oa), (.int 11), (.ref b101)])) ?_ fun t k => (by
    refine XS.aload X145.here hx rfl (hb hby own_d1_557) rfl rfl ?_
    refine XS.bipush X145.here hx rfl (hb hby own_d1_559) ?_
    refine XS.aloadN X145.here hx rfl (hb hby own_d1_561) rfl rfl ?_
    refine XS.bipush X145.here hx rfl (hb hby own_d1_562) ?_
    refine XS.iloadN X145.here hx rfl (hb hby own_d1_564) rfl ?_
    refine XS.iloadN X145.here hx rfl (hb hby own_d1_565) rfl ?_
    exact k)
  have F147 := ((F143.keep K142 List.not_mem_nil List.not_mem_nil).wr W145 (Nat.ne_of_lt (Nat.lt_of_lt_of_le hS.lt (Nat.le_of_eq g101.symm))) (Nat.ne_of_lt (Nat.lt_of_lt_of_le hS.lt2 (Nat.le_of_eq g101.symm))))
  obtain ⟨_, _, ⟨T146, L146, k146, n146⟩, -, X146, ⟨Lc146, hQ146, l146, y146, z146⟩, st146⟩ := Jvm.LawKit.callS X145 hx (y := own_mn0) hown (mvT hZ (own_i hw 30 rfl)) (mvT hZ (own_i hw 31 rfl)) (mvT hZ (own_i hw 27 rfl)) (mvT hZ (own_i hw 32 rfl)) (by decide) (backOf (W := 2) (own_rmatD11 l Z a0 hw hst [] oa ua vp vc h145 n0 Xo145 F147 hc) hZ (own_i hw 32 rfl) (own_i hw 27 rfl) (by decide) (by decide)) (g := (mkF m 566 #[sR oa, sI 12, sI vp, sI vc, sR b101] [(.int vc), (.int vp), (.int 11), (.ref oa), (.int 11), (.ref b101)])) rfl (by rw [hml]; rfl) (argsL := [(.ref oa), (.int 11), (.int vp), (.int vc)]) (rest := [(.int 11), (.ref b101)]) (lenOf own_pd2 rfl) rfl (by show 2 * 0 + _ ≤ _; exact Nat.le_of_eq rfl) (hb hby own_d1_566) (fun _ _ => ⟨rfl, e145, (by decide : 1 + 0 ≤ _), (by decide : 12 + 0 ≤ _)⟩)
  dsimp only [own_R, Pt.U, Pt.locs, Pt.cells, Pt.slots] at X146 l146 y146 z146 st146 hQ146
  subst y146 z146
  obtain ⟨oc146, hv146, N146q, K146, g146_0, g146_1⟩ := hQ146
  subst hv146
  obtain ⟨h146, e146⟩ : ∃ z, T146.heap = z := ⟨_, rfl⟩
  rw [e146] at K146
  have Xo146 := Xo145.keep K146 all0
  have KK146 := KK145.trans K146 all0
  have N146 : Fr n0 L146 := by rw [l146]; exact Fr.app N145 N146q
  refine own_to ?_ st146
  have F148 := (V145.keep K146 List.not_mem_nil)
  obtain ⟨cl149, Ar149, q149, S149, M149, H149, G149⟩ := id F148
  obtain ⟨T149, h149, X149, e149, W149, st149⟩ := stC X146 hx hZ e146 Ar149 (j := (11 : Int32)) (inb_of S149 ⟨by decide, by decide⟩) (g := (mkF m 569 #[sR oa, sI 12, sI vp, sI vc, sR b101] [(.int oc146), (.int 11), (.ref b101)])) rfl rfl (hb hby own_d1_569)
  rw [own_narC (own_up g146_1)] at W149
  have Xo149 := Xo146.wr W149 ge_b101
  have KK149 := KK146.wr W149 (Or.inr sz_b101)
  have V149 : Arv Z h149 b101 k101 .char (12 : Int32) [(.int oc102), (.int oc106), (.int oc110), (.int oc114), (.int oc118), (.int oc122), (.int oc126), (.int oc130), (.int oc134), (.int oc138), (.int oc142), (.int oc146)] (.int (0 : Int32)) := Arv.set Ar149 q149 S149 M149 H149 G149 (own_fitC (own_up g146_1)) W149 11 rfl (Nat.le_of_ble_eq_true rfl)
  have N149 := Fr.snoc X149 N146 ge_b101
  refine own_to ?_ st149
  obtain ⟨T150, h150, X150, e150, E150, A150, D150, U150, st150⟩ := newO X149 hx hZ hown (own_i hw 55 rfl) (own_i hw 2 rfl) (own_i hw 1 rfl) e149 (g := (mkF m 570 #[sR oa, sI 12, sI vp, sI vc, sR b101] [])) rfl (hb hby own_d1_570) (by decide) (by decide)
  obtain ⟨b150, g150⟩ : ∃ z, z = h149.size := ⟨_, rfl⟩
  rw [← g150] at A150 D150 U150 st150
  have Xo150 := Xo149.ext E150
  have KK150 := KK149.ext E150
  have ge_b150 := Nat.le_trans (own_ole Xo149) (Nat.le_of_eq g150.symm)
  have sz_b150 := Nat.le_trans KK149.1 (Nat.le_of_eq g150.symm)
  have Fi150_4 : Fld Z h150 b150 "java/lang/String" "value" "[B" .null := D150 (Or.inr (own_i hw 4 rfl)) (ty := (.array .byte)) (by decide)
  have Fi150_5 : Fld Z h150 b150 "java/lang/String" "coder" "B" (.int 0) := D150 (Or.inr (own_i hw 5 rfl)) (ty := .byte) (by decide)
  refine own_to ?_ st150
  refine own_to (V := T150.setTop (mkF m 576 #[sR oa, sI 12, sI vp, sI vc, sR b101] [(.ref b101), (.ref b150), (.ref b150)])) ?_ fun t k => (by
    refine XS.dup X150.here hx rfl (hb hby own_d1_573) rfl rfl ?_
    refine XS.aload X150.here hx rfl (hb hby own_d1_574) rfl rfl ?_
    exact k)
  have F152 := (V149.ext E150)
  obtain ⟨_, _, ⟨T151, L151, k151, n151⟩, -, X151, ⟨Lc151, hQ151, l151, y151, z151⟩, st151⟩ := X150.specialBack hx (y := own_mn4) rfl hown (mvT hZ (own_i hw 56 rfl)) (mvT hZ (own_i hw 57 rfl)) (mvT hZ (own_i hw 58 rfl)) (by decide) (StrChars.Road.backV (W := 1) hZ (own_hws hw) (kI := 4) (own_i hw 2 rfl) (cs := ([oc102, oc106, oc110, oc114, oc118, oc122, oc126, oc130, oc134, oc138, oc142, oc146] : List Int32)) (bs := ([oc102, oc106, oc110, oc114, oc118, oc122, oc126, oc130, oc134, oc138, oc142, oc146] : List Int32).map (fun c => c.toInt8.toInt32)) (n := 12) ge_b150 (own_ole Xo150) A150 Fi150_4 Fi150_5 F152 (O2.ext Xo150.2) P5 rfl rfl (by decide) (by decide) (own_allS g102_1 (own_allS g106_1 (own_allS g110_1 (own_allS g114_1 (own_allS g118_1 (own_allS g122_1 (own_allS g126_1 (own_allS g130_1 (own_allS g134_1 (own_allS g138_1 (own_allS g142_1 (own_allS g146_1 own_all0)))))))))))) rfl (by decide) (by decide)) (g := (mkF m 576 #[sR oa, sI 12, sI vp, sI vc, sR b101] [(.ref b101), (.ref b150), (.ref b150)])) rfl (by rw [hml]; rfl) (Steps.refl _) (a := b150) (argsL := [(.ref b101)]) (rest := [(.ref b150)]) (lenOf own_pd3 rfl) rfl (by show 2 * 0 + _ ≤ _; exact Nat.le_of_eq rfl) (hb hby own_d1_576) (fun _ _ => ⟨rfl, e150, (by decide : 2 + 1 ≤ _), (by decide : 16 + 12 ≤ _)⟩)
  dsimp only [own_R, Pt.U, Pt.locs, Pt.cells, Pt.slots] at X151 l151 y151 z151 st151 hQ151
  subst y151 z151
  obtain ⟨hv151, N151q, K151, gE151, gC151, u151, kb151, ua151, ub151, uc151, gV151, gK151⟩ := hQ151
  subst hv151
  obtain ⟨h151, e151⟩ : ∃ z, T151.heap = z := ⟨_, rfl⟩
  rw [e151] at K151 gE151 gC151 gV151 gK151
  have Xo151 := Xo150.keep K151 (allS ge_b150 all0)
  have KK151 := KK150.trans K151 (allS (Or.inr sz_b150) all0)
  have N151 : Fr n0 L151 := by rw [l151]; exact Fr.app N149 N151q
  have ge_u151 := Nat.le_trans (own_ole Xo150) ub151
  have sz_u151 := Nat.le_trans KK150.1 ub151
  have Fs151 : own_Str Z h151 b150 u151 ([oc102, oc106, oc110, oc114, oc118, oc122, oc126, oc130, oc134, oc138, oc142, oc146] : List Int32) := own_mkStr0 gE151 gV151 gC151 gK151 rfl (own_allS g102_1 (own_allS g106_1 (own_allS g110_1 (own_allS g114_1 (own_allS g118_1 (own_allS g122_1 (own_allS g126_1 (own_allS g130_1 (own_allS g134_1 (own_allS g138_1 (own_allS g142_1 (own_allS g146_1 own_all0)))))))))))) (Nat.le_of_ble_eq_true rfl)
  refine own_to ?_ (fun t k => st151.trans k)
  have Fz153 : own_Str Z h151 b150 u151 ([(own_at (0 : Int32) vp vc (68 : Int32)), (own_at (1 : Int32) vp vc (101 : Int32)), (own_at (2 : Int32) vp vc (118 : Int32)), (own_at (3 : Int32) vp vc (101 : Int32)), (own_at (4 : Int32) vp vc (108 : Int32)), (own_at (5 : Int32) vp vc (111 : Int32)), (own_at (6 : Int32) vp vc (112 : Int32)), (own_at (7 : Int32) vp vc (109 : Int32)), (own_at (8 : Int32) vp vc (101 : Int32)), (own_at (9 : Int32) vp vc (110 : Int32)), (own_at (10 : Int32) vp vc (116 : Int32)), vc] : List Int32) := by
    rw [← g102_0, ← g106_0, ← g110_0, ← g114_0, ← g118_0, ← g122_0, ← g126_0, ← g130_0, ← g134_0, ← g138_0, ← g142_0, ← g146_0]
    exact Fs151
  exact own_retR X151 hx hret (by decide) rfl hlk (hb hby own_d1_579) (by rw [e151]; exact (⟨b150, u151, rfl, N151, KK151, Fz153⟩)) (by decide) (by decide)
def own_Qvals (Z : State) (dv : Addr) (pd : Addr) (h0 : Heap) (n0 : Nat) (v : Option Value) (h : Heap) (L : List Loc) : Prop := (∃ (oo : Addr) (ko : ClassId), v = some (.ref oo) ∧ Fr n0 L ∧ Keep h0 h [] ∧ (Arv Z h oo ko (.object "com/example/tallowlark/tallowlark/server/Stage") (2 : Int32) [(.ref dv), (.ref pd)] .null) ∧ (h0.size ≤ oo))
theorem own_ef_vals (m : MethodId)   : entryFrame m #[] 0 = mkF m 0 #[] [] := by first | (simp [entryFrame, mkF, argsToLocals, Value.category]; done) | rfl
set_option maxRecDepth 65536 in
set_option maxHeartbeats 40000000 in
theorem own_rmvals (l : Launch) (Z : State) (a0 : Array Value) (hw : ∀ d ∈ tables_1, d.before a0 Z = true) (hst : own_St Z) (ws : List Jvm.Cond) (dv : Addr) (pd : Addr) (h0 : Heap) (n0 : Nat) (X00 : Old Z n0 h0) (hR : own_Stg Z dv pd) :
    own_MF l own_mn5 prog_119_method_1_code 0 (Option.some (Jvm.ClassFile.FieldType.array (Jvm.ClassFile.FieldType.object "com/example/tallowlark/tallowlark/server/Stage"))) ws (own_R 1 1 2 14) #[] Z h0 (own_Qvals Z dv pd h0 n0) := by
  refine own_body (plainFor_of_name own_pn1) (fun m => own_ef_vals m  ) ?_
  intro p e s m below meth c s₁ hx hby hret hlk hml hZ hown hnm hh X0 e0
  have N0 := Fr.nil n0
  have KK0 : Keep h0 h0 [] := Keep.refl h0 _
  obtain ⟨⟨G1, O2, P5⟩, ⟨G3, O4, rG3⟩, -⟩ := id hst
  obtain ⟨oD, oP, eD, eP, va, kV, sd, ud, sp, up, oV, eV, aV, fD, fP, sD, sP⟩ := id hR
  obtain ⟨T101, X101, e101, st101⟩ := getS2 X0 hx hZ hown (host := "") (Or.inl (own_i hw 82 rfl)) Via.refl e0 (oV.ext X00.2) (g := (mkF m 0 #[] [])) rfl (hb hby own_d2_0)
  refine own_to ?_ st101
  obtain ⟨cl102, Ar102, q102, S102, M102, H102, G102⟩ := aV.ext X00.2
  obtain ⟨T102, h102, X102, e102, E102, A102, B102, st102⟩ := cloneA X101 hx hZ hown (own_i hw 84 rfl) (own_i hw 85 rfl) (own_i hw 89 rfl) (own_i hw 87 rfl) (own_i hw 88 rfl) (own_i hw 90 rfl) e101 Ar102 (eV.ext X00.2) (fitC_of Ar102 fun i hi v hv => by rw [H102 i hi] at hv; cases hv; exact G102 i hi) (g := (mkF m 3 #[] [(.ref va)])) rfl (by rw [hml]; rfl) rfl (hb hby own_d2_3) (by decide) (W := 0) (cap := 2) (by show 2 * 0 + _ ≤ _; exact Nat.le_of_eq rfl) (by decide) (by rw [S102]; decide) (by decide) (by decide)
  obtain ⟨b102, g102⟩ : ∃ z, z = h0.size := ⟨_, rfl⟩
  rw [← g102] at A102 B102 st102
  have Xo102 := X00.ext E102
  have KK102 := KK0.ext E102
  have ge_b102 := Nat.le_trans (own_ole X00) (Nat.le_of_eq g102.symm)
  have sz_b102 := Nat.le_trans KK0.1 (Nat.le_of_eq g102.symm)
  have V102 : Arv Z h102 b102 kV (.object "com/example/tallowlark/tallowlark/server/Stage") (2 : Int32) [(.ref dv), (.ref pd)] .null := ⟨cloneOf cl102, A102, q102, S102, M102, H102, G102⟩
  refine own_to ?_ st102
  obtain ⟨T103, X103, e103, st103⟩ := castY X102 hx hZ hown (own_i hw 93 rfl) e102 (Ins.self B102) (g := (mkF m 6 #[] [(.ref b102)])) rfl rfl (hb hby own_d2_6)
  refine own_to ?_ st103
  exact own_retR X103 hx hret (by decide) rfl hlk (hb hby own_d2_9) (by rw [e103]; exact (⟨b102, kV, rfl, N0, KK102, V102, sz_b102⟩)) (by decide) (by decide)
def own_QeqN (Z : State) (oa : Addr) (h0 : Heap) (n0 : Nat) (v : Option Value) (h : Heap) (L : List Loc) : Prop := (v = some (.int 0) ∧ Fr n0 L ∧ Keep h0 h [])
theorem own_ef_eqN (m : MethodId) (oa : Addr)  : entryFrame m #[(.ref oa), .null] 3 = mkF m 0 #[sR oa, .val .null, .unset] [] := by first | (simp [entryFrame, mkF, argsToLocals, Value.category]; done) | rfl
set_option maxRecDepth 65536 in
set_option maxHeartbeats 40000000 in
theorem own_rmeqN (l : Launch) (Z : State) (a0 : Array Value) (hw : ∀ d ∈ tables_1, d.before a0 Z = true) (hst : own_St Z) (ws : List Jvm.Cond) (oa : Addr) (h0 : Heap) (n0 : Nat) (X00 : Old Z n0 h0)  :
    own_MF l own_mn6 jdk_42_method_66_code 3 (Option.some Jvm.ClassFile.FieldType.boolean) ws (own_R 0 0 0 0) #[(.ref oa), .null] Z h0 (own_QeqN Z oa h0 n0) := by
  refine own_body (plainFor_of_name own_pn2) (fun m => own_ef_eqN m oa ) ?_
  intro p e s m below meth c s₁ hx hby hret hlk hml hZ hown hnm hh X0 e0
  have N0 := Fr.nil n0
  have KK0 : Keep h0 h0 [] := Keep.refl h0 _
  obtain ⟨⟨G1, O2, P5⟩, ⟨G3, O4, rG3⟩, -⟩ := id hst
  refine own_to (V := s₁.setTop (mkF m 2 #[sR oa, .val .null, .unset] [.null, (.ref oa)])) ?_ fun t k => (by
    refine XS.aloadN X0.here hx rfl (hb hby own_d3_0) rfl rfl ?_
    refine XS.aloadN X0.here hx rfl (hb hby own_d3_1) rfl rfl ?_
    exact k)
  refine own_to (V := s₁.setTop (mkF m 8 #[sR oa, .val .null, .unset] [.null])) ?_ fun t k => (by
    refine Jvm.RoadKit.acmp (g := (mkF m 2 #[sR oa, .val .null, .unset] [.null, (.ref oa)])) X0 hx rfl rfl rfl (pc0 := 2) (pc' := 7) (same := false) rfl (hb hby own_d3_2) rfl (decide_eq_false nofun) (by decide) (by decide) ?_
    refine XS.aloadN X0.here hx rfl (hb hby own_d3_7) rfl rfl ?_
    exact k)
  refine own_to (V := s₁.setTop (mkF m 11 #[sR oa, .val .null, .unset] [(.int 0)])) ?_ (fun t k => X0.instanceofNull hx (g := (mkF m 8 #[sR oa, .val .null, .unset] [.null])) rfl rfl (hb hby own_d3_8) t k)
  refine own_to (V := s₁.setTop (mkF m 55 #[sR oa, .val .null, .unset] [(.int 0)])) ?_ fun t k => (by
    refine XS.ifYes X0.here hx rfl (pc0 := 11) (pc' := 54) rfl (hb hby own_d3_11) rfl ((if0 _ _).trans (teq ((by decide) : (0 : Int32) = (0 : Int32))).1) (by decide) (by decide) ?_
    refine XS.iconst X0.here hx rfl (hb hby own_d3_54) ?_
    exact k)
  exact own_retN X0 hx (t := .boolean) (w := (0 : Int32)) hret (by decide) rfl hlk (hb hby own_d3_55) (by rw [e0]; exact (⟨rfl, N0, KK0⟩)) (by decide) (by decide)
def own_Qfa0 (Z : State) (dv : Addr) (pd : Addr) (h0 : Heap) (n0 : Nat) (v : Option Value) (h : Heap) (L : List Loc) : Prop := (v = some .null ∧ Fr n0 L ∧ Keep h0 h [])
theorem own_ef_fa0 (m : MethodId)   : entryFrame m #[.null] 5 = mkF m 0 #[.val .null, .unset, .unset, .unset, .unset] [] := by first | (simp [entryFrame, mkF, argsToLocals, Value.category]; done) | rfl
set_option maxRecDepth 65536 in
set_option maxHeartbeats 40000000 in
theorem own_rmfa0 (l : Launch) (Z : State) (a0 : Array Value) (hw : ∀ d ∈ tables_1, d.before a0 Z = true) (hst : own_St Z) (ws : List Jvm.Cond) (dv : Addr) (pd : Addr) (h0 : Heap) (n0 : Nat) (X00 : Old Z n0 h0) (hR : own_Stg Z dv pd) :
    own_MF l own_mn7 prog_119_method_4_code 5 (Option.some (Jvm.ClassFile.FieldType.object "com/example/tallowlark/tallowlark/server/Stage")) ws (own_R 2 1 2 25) #[.null] Z h0 (own_Qfa0 Z dv pd h0 n0) := by
  refine own_body (plainFor_of_name own_pn1) (fun m => own_ef_fa0 m  ) ?_
  intro p e s m below meth c s₁ hx hby hret hlk hml hZ hown hnm hh X0 e0
  have N0 := Fr.nil n0
  have KK0 : Keep h0 h0 [] := Keep.refl h0 _
  obtain ⟨⟨G1, O2, P5⟩, ⟨G3, O4, rG3⟩, -⟩ := id hst
  obtain ⟨oD, oP, eD, eP, va, kV, sd, ud, sp, up, oV, eV, aV, fD, fP, sD, sP⟩ := id hR
  have eD' := eD.ext X00.2
  have fD' := fD.ext X00.2
  have sD' := sD.ext X00.2
  have eP' := eP.ext X00.2
  have fP' := fP.ext X00.2
  have sP' := sP.ext X00.2
  obtain ⟨_, _, ⟨T101, L101, k101, n101⟩, -, X101, ⟨Lc101, hQ101, l101, y101, z101⟩, st101⟩ := Jvm.LawKit.callS X0 hx (y := own_mn5) hown (mvT hZ (own_i hw 79 rfl)) (mvT hZ (own_i hw 80 rfl)) (mvT hZ (own_i hw 9 rfl)) (mvT hZ (own_i hw 81 rfl)) (by decide) (backOf (W := 0) (own_rmvals l Z a0 hw hst [] dv pd h0 n0 X00 hR) hZ (own_i hw 81 rfl) (own_i hw 9 rfl) (by decide) (by decide)) (g := (mkF m 0 #[.val .null, .unset, .unset, .unset, .unset] [])) rfl (by rw [hml]; rfl) (argsL := []) (rest := []) (lenOf own_pd4 rfl) rfl (by show 2 * 0 + _ ≤ _; exact Nat.le_of_eq rfl) (hb hby own_d4_0) (fun _ _ => ⟨rfl, e0, (by decide : 0 + 1 ≤ _), (by decide : 0 + 2 ≤ _)⟩)
  dsimp only [own_R, Pt.U, Pt.locs, Pt.cells, Pt.slots] at X101 l101 y101 z101 st101 hQ101
  subst y101 z101
  obtain ⟨oo101, ko101, hv101, N101q, K101, g101_0, g101_1⟩ := hQ101
  subst hv101
  obtain ⟨h101, e101⟩ : ∃ z, T101.heap = z := ⟨_, rfl⟩
  rw [e101] at K101 g101_0
  have Xo101 := X00.keep K101 all0
  have KK101 := KK0.trans K101 all0
  have N101 : Fr n0 L101 := by rw [l101]; exact Fr.app N0 N101q
  have ge_oo101 := Nat.le_trans (own_ole X00) g101_1
  have sz_oo101 := Nat.le_trans KK0.1 g101_1
  refine own_to ?_ st101
  refine own_to (V := T101.setTop (mkF m 5 #[.val .null, sR oo101, .unset, .unset, .unset] [(.ref oo101)])) ?_ fun t k => (by
    refine XS.astoreN X101.here hx rfl (hb hby own_d4_3) rfl rfl (l' := #[.val .null, sR oo101, .unset, .unset, .unset]) rfl ?_
    refine XS.aloadN X101.here hx rfl (hb hby own_d4_4) rfl rfl ?_
    exact k)
  obtain ⟨cl102, Ar102, q102, S102, M102, H102, G102⟩ := id g101_0
  refine own_to (V := T101.setTop (mkF m 6 #[.val .null, sR oo101, .unset, .unset, .unset] [(.int 2)])) ?_ (fun t k => X101.arraylength hx (by rw [e101]; exact Ar102.1) (State.isArrayOf_alike hZ.alike Ar102.2.1) (g := (mkF m 5 #[.val .null, sR oo101, .unset, .unset, .unset] [(.ref oo101)])) rfl rfl (hb hby own_d4_5) t (by rw [len_of S102 M102]; exact k))
  refine own_to (V := T101.setTop (mkF m 16 #[.val .null, sR oo101, sI 2, sI 0, .unset] [(.int 0), (.ref oo101)])) ?_ fun t k => (by
    refine XS.istoreN X101.here hx rfl (hb hby own_d4_6) rfl (l' := #[.val .null, sR oo101, sI 2, .unset, .unset]) rfl ?_
    refine XS.iconst X101.here hx rfl (hb hby own_d4_7) ?_
    refine XS.istoreN X101.here hx rfl (hb hby own_d4_8) rfl (l' := #[.val .null, sR oo101, sI 2, sI 0, .unset]) rfl ?_
    refine XS.iloadN X101.here hx rfl (hb hby own_d4_9) rfl ?_
    refine XS.iloadN X101.here hx rfl (hb hby own_d4_10) rfl ?_
    refine XS.icmpNo X101.here hx rfl (hb hby own_d4_11) rfl (tlt ((by decide) : (0 : Int32) < (2 : Int32))).2.1 ?_
    refine XS.aloadN X101.here hx rfl (hb hby own_d4_14) rfl rfl ?_
    refine XS.iloadN X101.here hx rfl (hb hby own_d4_15) rfl ?_
    exact k)
  obtain ⟨cl103, Ar103, q103, S103, M103, H103, G103⟩ := id g101_0
  have hin103 : ¬ ((0 : Int32) < 0 ∨ cl103.slots.size ≤ ((0 : Int32)).toNatClampNeg) := inb_of S103 ⟨by decide, by decide⟩
  refine own_to (V := T101.setTop (mkF m 17 #[.val .null, sR oo101, sI 2, sI 0, .unset] [(.ref dv)])) ?_ (fun t k => X101.aaload hx (j := (0 : Int32)) (v := (.ref dv)) (by rw [e101]; exact Ar103.1) (State.isArrayOf_alike hZ.alike Ar103.2.1) rfl Ar103.2.2 hin103 (Has.at H103 hin103 rfl) (g := (mkF m 16 #[.val .null, sR oo101, sI 2, sI 0, .unset] [(.int 0), (.ref oo101)])) rfl rfl (hb hby own_d4_16) t k)
  refine own_to (V := T101.setTop (mkF m 21 #[.val .null, sR oo101, sI 2, sI 0, sR dv] [(.ref dv)])) ?_ fun t k => (by
    refine XS.astore X101.here hx rfl (hb hby own_d4_17) rfl rfl (l' := #[.val .null, sR oo101, sI 2, sI 0, sR dv]) rfl ?_
    refine XS.aload X101.here hx rfl (hb hby own_d4_19) rfl rfl ?_
    exact k)
  have F104 := (fD'.keep K101 List.not_mem_nil)
  obtain ⟨T105, X105, e105, st105⟩ := getF X101 hx hZ hown (host := "") (Or.inl (own_i hw 95 rfl)) Via.refl e101 F104 (g := (mkF m 21 #[.val .null, sR oo101, sI 2, sI 0, sR dv] [(.ref dv)])) rfl rfl (hb hby own_d4_21)
  refine own_to ?_ st105
  refine own_to (V := T105.setTop (mkF m 25 #[.val .null, sR oo101, sI 2, sI 0, sR dv] [.null, (.ref sd)])) ?_ fun t k => (by
    refine XS.aloadN X105.here hx rfl (hb hby own_d4_24) rfl rfl ?_
    exact k)
  have F107 := (sD'.keep K101 List.not_mem_nil List.not_mem_nil)
  obtain ⟨cq106, kq106, q106a, q106b, q106c⟩ := isOf hZ e105 F107.1
  obtain ⟨_, _, ⟨T106, L106, k106, n106⟩, -, X106, ⟨Lc106, hQ106, l106, y106, z106⟩, st106⟩ := X105.virtualBack hx (y := own_mn6) (z := own_mn6) hown (mvT hZ (own_i hw 97 rfl)) (mvT hZ (own_i hw 98 rfl)) (notFace_of_selects (args := #[]) (mvT hZ (own_i hw 100 rfl))) (mvT hZ (own_i hw 100 rfl)) (mvT hZ (own_i hw 99 rfl)) (by decide) (backOf (W := 0) (own_rmeqN l Z a0 hw hst [] sd h101 n0 Xo101 ) hZ (own_i hw 101 rfl) (own_i hw 1 rfl) (by decide) (by decide)) q106a q106c (g := (mkF m 25 #[.val .null, sR oo101, sI 2, sI 0, sR dv] [.null, (.ref sd)])) rfl (by rw [hml]; rfl) (Steps.refl _) (argsL := [.null]) (rest := []) (lenOf own_pd5 rfl) rfl (by show 2 * 0 + _ ≤ _; exact Nat.le_of_eq rfl) (hb hby own_d4_25) (fun _ _ => ⟨rfl, e105, (by decide : 1 + 0 ≤ _), (by decide : 2 + 0 ≤ _)⟩)
  dsimp only [own_R, Pt.U, Pt.locs, Pt.cells, Pt.slots] at X106 l106 y106 z106 st106 hQ106
  subst y106 z106
  obtain ⟨hv106, N106q, K106⟩ := hQ106
  subst hv106
  obtain ⟨h106, e106⟩ : ∃ z, T106.heap = z := ⟨_, rfl⟩
  rw [e106] at K106
  have Xo106 := Xo101.keep K106 all0
  have KK106 := KK101.trans K106 all0
  have N106 : Fr n0 L106 := by rw [l106]; exact Fr.app N101 N106q
  refine own_to ?_ (fun t k => st106.trans k)
  refine own_to (V := T106.setTop (mkF m 16 #[.val .null, sR oo101, sI 2, sI 1, sR dv] [(.int 1), (.ref oo101)])) ?_ fun t k => (by
    refine XS.ifYes X106.here hx rfl (pc0 := 28) (pc' := 34) rfl (hb hby own_d4_28) rfl ((if0 _ _).trans (teq ((by decide) : (0 : Int32) = (0 : Int32))).1) (by decide) (by decide) ?_
    refine XS.iinc X106.here hx rfl (hb hby own_d4_34) rfl (l' := #[.val .null, sR oo101, sI 2, sI 1, sR dv]) rfl ?_
    refine XS.goto X106.here hx rfl (pc0 := 37) (pc' := 9) rfl (hb hby own_d4_37) (by decide) (by decide) ?_
    refine XS.iloadN X106.here hx rfl (hb hby own_d4_9) rfl ?_
    refine XS.iloadN X106.here hx rfl (hb hby own_d4_10) rfl ?_
    refine XS.icmpNo X106.here hx rfl (hb hby own_d4_11) rfl (tlt ((by decide) : (1 : Int32) < (2 : Int32))).2.1 ?_
    refine XS.aloadN X106.here hx rfl (hb hby own_d4_14) rfl rfl ?_
    refine XS.iloadN X106.here hx rfl (hb hby own_d4_15) rfl ?_
    exact k)
  have F108 := (g101_0.keep K106 List.not_mem_nil)
  obtain ⟨cl109, Ar109, q109, S109, M109, H109, G109⟩ := id F108
  have hin109 : ¬ ((1 : Int32) < 0 ∨ cl109.slots.size ≤ ((1 : Int32)).toNatClampNeg) := inb_of S109 ⟨by decide, by decide⟩
  refine own_to (V := T106.setTop (mkF m 17 #[.val .null, sR oo101, sI 2, sI 1, sR dv] [(.ref pd)])) ?_ (fun t k => X106.aaload hx (j := (1 : Int32)) (v := (.ref pd)) (by rw [e106]; exact Ar109.1) (State.isArrayOf_alike hZ.alike Ar109.2.1) rfl Ar109.2.2 hin109 (Has.at H109 hin109 rfl) (g := (mkF m 16 #[.val .null, sR oo101, sI 2, sI 1, sR dv] [(.int 1), (.ref oo101)])) rfl rfl (hb hby own_d4_16) t k)
  refine own_to (V := T106.setTop (mkF m 21 #[.val .null, sR oo101, sI 2, sI 1, sR pd] [(.ref pd)])) ?_ fun t k => (by
    refine XS.astore X106.here hx rfl (hb hby own_d4_17) rfl rfl (l' := #[.val .null, sR oo101, sI 2, sI 1, sR pd]) rfl ?_
    refine XS.aload X106.here hx rfl (hb hby own_d4_19) rfl rfl ?_
    exact k)
  have F110 := ((fP'.keep K101 List.not_mem_nil).keep K106 List.not_mem_nil)
  obtain ⟨T111, X111, e111, st111⟩ := getF X106 hx hZ hown (host := "") (Or.inl (own_i hw 95 rfl)) Via.refl e106 F110 (g := (mkF m 21 #[.val .null, sR oo101, sI 2, sI 1, sR pd] [(.ref pd)])) rfl rfl (hb hby own_d4_21)
  refine own_to ?_ st111
  refine own_to (V := T111.setTop (mkF m 25 #[.val .null, sR oo101, sI 2, sI 1, sR pd] [.null, (.ref sp)])) ?_ fun t k => (by
    refine XS.aloadN X111.here hx rfl (hb hby own_d4_24) rfl rfl ?_
    exact k)
  have F113 := ((sP'.keep K101 List.not_mem_nil List.not_mem_nil).keep K106 List.not_mem_nil List.not_mem_nil)
  obtain ⟨cq112, kq112, q112a, q112b, q112c⟩ := isOf hZ e111 F113.1
  obtain ⟨_, _, ⟨T112, L112, k112, n112⟩, -, X112, ⟨Lc112, hQ112, l112, y112, z112⟩, st112⟩ := X111.virtualBack hx (y := own_mn6) (z := own_mn6) hown (mvT hZ (own_i hw 97 rfl)) (mvT hZ (own_i hw 98 rfl)) (notFace_of_selects (args := #[]) (mvT hZ (own_i hw 100 rfl))) (mvT hZ (own_i hw 100 rfl)) (mvT hZ (own_i hw 99 rfl)) (by decide) (backOf (W := 0) (own_rmeqN l Z a0 hw hst [] sp h106 n0 Xo106 ) hZ (own_i hw 101 rfl) (own_i hw 1 rfl) (by decide) (by decide)) q112a q112c (g := (mkF m 25 #[.val .null, sR oo101, sI 2, sI 1, sR pd] [.null, (.ref sp)])) rfl (by rw [hml]; rfl) (Steps.refl _) (argsL := [.null]) (rest := []) (lenOf own_pd5 rfl) rfl (by show 2 * 0 + _ ≤ _; exact Nat.le_of_eq rfl) (hb hby own_d4_25) (fun _ _ => ⟨rfl, e111, (by decide : 1 + 0 ≤ _), (by decide : 2 + 0 ≤ _)⟩)
  dsimp only [own_R, Pt.U, Pt.locs, Pt.cells, Pt.slots] at X112 l112 y112 z112 st112 hQ112
  subst y112 z112
  obtain ⟨hv112, N112q, K112⟩ := hQ112
  subst hv112
  obtain ⟨h112, e112⟩ : ∃ z, T112.heap = z := ⟨_, rfl⟩
  rw [e112] at K112
  have Xo112 := Xo106.keep K112 all0
  have KK112 := KK106.trans K112 all0
  have N112 : Fr n0 L112 := by rw [l112]; exact Fr.app N106 N112q
  refine own_to ?_ (fun t k => st112.trans k)
  refine own_to (V := T112.setTop (mkF m 41 #[.val .null, sR oo101, sI 2, sI 2, sR pd] [.null])) ?_ fun t k => (by
    refine XS.ifYes X112.here hx rfl (pc0 := 28) (pc' := 34) rfl (hb hby own_d4_28) rfl ((if0 _ _).trans (teq ((by decide) : (0 : Int32) = (0 : Int32))).1) (by decide) (by decide) ?_
    refine XS.iinc X112.here hx rfl (hb hby own_d4_34) rfl (l' := #[.val .null, sR oo101, sI 2, sI 2, sR pd]) rfl ?_
    refine XS.goto X112.here hx rfl (pc0 := 37) (pc' := 9) rfl (hb hby own_d4_37) (by decide) (by decide) ?_
    refine XS.iloadN X112.here hx rfl (hb hby own_d4_9) rfl ?_
    refine XS.iloadN X112.here hx rfl (hb hby own_d4_10) rfl ?_
    refine XS.icmpYes X112.here hx rfl (pc0 := 11) (pc' := 40) rfl (hb hby own_d4_11) rfl (flt ((by decide) : ¬ ((2 : Int32) < (2 : Int32)))).2.1 (by decide) (by decide) ?_
    refine XS.aconstNull X112.here hx rfl (hb hby own_d4_40) ?_
    exact k)
  exact own_retR X112 hx hret (by decide) rfl hlk (hb hby own_d4_41) (by rw [e112]; exact (⟨rfl, N112, KK112⟩)) (by decide) (by decide)
def own_Qfa1 (Z : State) (dv : Addr) (pd : Addr) (oa : Addr) (ua : Addr) (cs : List Int32) (h0 : Heap) (n0 : Nat) (v : Option Value) (h : Heap) (L : List Loc) : Prop := (v = some (.ref dv) ∧ Fr n0 L ∧ Keep h0 h [] ∧ (([(68 : Int32), (101 : Int32), (118 : Int32), (101 : Int32), (108 : Int32), (111 : Int32), (112 : Int32), (109 : Int32), (101 : Int32), (110 : Int32), (116 : Int32)] : List Int32) = cs)) ∨ (v = some (.ref pd) ∧ Fr n0 L ∧ Keep h0 h [] ∧ (¬ ([(68 : Int32), (101 : Int32), (118 : Int32), (101 : Int32), (108 : Int32), (111 : Int32), (112 : Int32), (109 : Int32), (101 : Int32), (110 : Int32), (116 : Int32)] : List Int32) = cs) ∧ (([(80 : Int32), (114 : Int32), (111 : Int32), (100 : Int32), (117 : Int32), (99 : Int32), (116 : Int32), (105 : Int32), (111 : Int32), (110 : Int32)] : List Int32) = cs)) ∨ (v = some .null ∧ Fr n0 L ∧ Keep h0 h [] ∧ (¬ ([(68 : Int32), (101 : Int32), (118 : Int32), (101 : Int32), (108 : Int32), (111 : Int32), (112 : Int32), (109 : Int32), (101 : Int32), (110 : Int32), (116 : Int32)] : List Int32) = cs) ∧ (¬ ([(80 : Int32), (114 : Int32), (111 : Int32), (100 : Int32), (117 : Int32), (99 : Int32), (116 : Int32), (105 : Int32), (111 : Int32), (110 : Int32)] : List Int32) = cs))
theorem own_ef_fa1 (m : MethodId) (oa : Addr)  : entryFrame m #[(.ref oa)] 5 = mkF m 0 #[sR oa, .unset, .unset, .unset, .unset] [] := by first | (simp [entryFrame, mkF, argsToLocals, Value.category]; done) | rfl
set_option maxRecDepth 65536 in
set_option maxHeartbeats 40000000 in
theorem own_rmfa1 (l : Launch) (Z : State) (a0 : Array Value) (hw : ∀ d ∈ tables_1, d.before a0 Z = true) (hst : own_St Z) (ws : List Jvm.Cond) (dv : Addr) (pd : Addr) (oa : Addr) (ua : Addr) (cs : List Int32) (h0 : Heap) (n0 : Nat) (X00 : Old Z n0 h0) (hR : own_Stg Z dv pd) (hS : own_Str Z h0 oa ua cs) :
    own_MF l own_mn7 prog_119_method_4_code 5 (Option.some (Jvm.ClassFile.FieldType.object "com/example/tallowlark/tallowlark/server/Stage")) ws (own_R 2 1 2 28) #[(.ref oa)] Z h0 (own_Qfa1 Z dv pd oa ua cs h0 n0) := by
  refine own_body (plainFor_of_name own_pn1) (fun m => own_ef_fa1 m oa ) ?_
  intro p e s m below meth c s₁ hx hby hret hlk hml hZ hown hnm hh X0 e0
  have N0 := Fr.nil n0
  have KK0 : Keep h0 h0 [] := Keep.refl h0 _
  obtain ⟨⟨G1, O2, P5⟩, ⟨G3, O4, rG3⟩, -⟩ := id hst
  obtain ⟨oD, oP, eD, eP, va, kV, sd, ud, sp, up, oV, eV, aV, fD, fP, sD, sP⟩ := id hR
  have eD' := eD.ext X00.2
  have fD' := fD.ext X00.2
  have sD' := sD.ext X00.2
  have eP' := eP.ext X00.2
  have fP' := fP.ext X00.2
  have sP' := sP.ext X00.2
  obtain ⟨_, _, ⟨T101, L101, k101, n101⟩, -, X101, ⟨Lc101, hQ101, l101, y101, z101⟩, st101⟩ := Jvm.LawKit.callS X0 hx (y := own_mn5) hown (mvT hZ (own_i hw 79 rfl)) (mvT hZ (own_i hw 80 rfl)) (mvT hZ (own_i hw 9 rfl)) (mvT hZ (own_i hw 81 rfl)) (by decide) (backOf (W := 0) (own_rmvals l Z a0 hw hst [] dv pd h0 n0 X00 hR) hZ (own_i hw 81 rfl) (own_i hw 9 rfl) (by decide) (by decide)) (g := (mkF m 0 #[sR oa, .unset, .unset, .unset, .unset] [])) rfl (by rw [hml]; rfl) (argsL := []) (rest := []) (lenOf own_pd4 rfl) rfl (by show 2 * 0 + _ ≤ _; exact Nat.le_of_eq rfl) (hb hby own_d4_0) (fun _ _ => ⟨rfl, e0, (by decide : 0 + 1 ≤ _), (by decide : 0 + 2 ≤ _)⟩)
  dsimp only [own_R, Pt.U, Pt.locs, Pt.cells, Pt.slots] at X101 l101 y101 z101 st101 hQ101
  subst y101 z101
  obtain ⟨oo101, ko101, hv101, N101q, K101, g101_0, g101_1⟩ := hQ101
  subst hv101
  obtain ⟨h101, e101⟩ : ∃ z, T101.heap = z := ⟨_, rfl⟩
  rw [e101] at K101 g101_0
  have Xo101 := X00.keep K101 all0
  have KK101 := KK0.trans K101 all0
  have N101 : Fr n0 L101 := by rw [l101]; exact Fr.app N0 N101q
  have ge_oo101 := Nat.le_trans (own_ole X00) g101_1
  have sz_oo101 := Nat.le_trans KK0.1 g101_1
  refine own_to ?_ st101
  refine own_to (V := T101.setTop (mkF m 5 #[sR oa, sR oo101, .unset, .unset, .unset] [(.ref oo101)])) ?_ fun t k => (by
    refine XS.astoreN X101.here hx rfl (hb hby own_d4_3) rfl rfl (l' := #[sR oa, sR oo101, .unset, .unset, .unset]) rfl ?_
    refine XS.aloadN X101.here hx rfl (hb hby own_d4_4) rfl rfl ?_
    exact k)
  obtain ⟨cl102, Ar102, q102, S102, M102, H102, G102⟩ := id g101_0
  refine own_to (V := T101.setTop (mkF m 6 #[sR oa, sR oo101, .unset, .unset, .unset] [(.int 2)])) ?_ (fun t k => X101.arraylength hx (by rw [e101]; exact Ar102.1) (State.isArrayOf_alike hZ.alike Ar102.2.1) (g := (mkF m 5 #[sR oa, sR oo101, .unset, .unset, .unset] [(.ref oo101)])) rfl rfl (hb hby own_d4_5) t (by rw [len_of S102 M102]; exact k))
  refine own_to (V := T101.setTop (mkF m 16 #[sR oa, sR oo101, sI 2, sI 0, .unset] [(.int 0), (.ref oo101)])) ?_ fun t k => (by
    refine XS.istoreN X101.here hx rfl (hb hby own_d4_6) rfl (l' := #[sR oa, sR oo101, sI 2, .unset, .unset]) rfl ?_
    refine XS.iconst X101.here hx rfl (hb hby own_d4_7) ?_
    refine XS.istoreN X101.here hx rfl (hb hby own_d4_8) rfl (l' := #[sR oa, sR oo101, sI 2, sI 0, .unset]) rfl ?_
    refine XS.iloadN X101.here hx rfl (hb hby own_d4_9) rfl ?_
    refine XS.iloadN X101.here hx rfl (hb hby own_d4_10) rfl ?_
    refine XS.icmpNo X101.here hx rfl (hb hby own_d4_11) rfl (tlt ((by decide) : (0 : Int32) < (2 : Int32))).2.1 ?_
    refine XS.aloadN X101.here hx rfl (hb hby own_d4_14) rfl rfl ?_
    refine XS.iloadN X101.here hx rfl (hb hby own_d4_15) rfl ?_
    exact k)
  obtain ⟨cl103, Ar103, q103, S103, M103, H103, G103⟩ := id g101_0
  have hin103 : ¬ ((0 : Int32) < 0 ∨ cl103.slots.size ≤ ((0 : Int32)).toNatClampNeg) := inb_of S103 ⟨by decide, by decide⟩
  refine own_to (V := T101.setTop (mkF m 17 #[sR oa, sR oo101, sI 2, sI 0, .unset] [(.ref dv)])) ?_ (fun t k => X101.aaload hx (j := (0 : Int32)) (v := (.ref dv)) (by rw [e101]; exact Ar103.1) (State.isArrayOf_alike hZ.alike Ar103.2.1) rfl Ar103.2.2 hin103 (Has.at H103 hin103 rfl) (g := (mkF m 16 #[sR oa, sR oo101, sI 2, sI 0, .unset] [(.int 0), (.ref oo101)])) rfl rfl (hb hby own_d4_16) t k)
  refine own_to (V := T101.setTop (mkF m 21 #[sR oa, sR oo101, sI 2, sI 0, sR dv] [(.ref dv)])) ?_ fun t k => (by
    refine XS.astore X101.here hx rfl (hb hby own_d4_17) rfl rfl (l' := #[sR oa, sR oo101, sI 2, sI 0, sR dv]) rfl ?_
    refine XS.aload X101.here hx rfl (hb hby own_d4_19) rfl rfl ?_
    exact k)
  have F104 := (fD'.keep K101 List.not_mem_nil)
  obtain ⟨T105, X105, e105, st105⟩ := getF X101 hx hZ hown (host := "") (Or.inl (own_i hw 95 rfl)) Via.refl e101 F104 (g := (mkF m 21 #[sR oa, sR oo101, sI 2, sI 0, sR dv] [(.ref dv)])) rfl rfl (hb hby own_d4_21)
  refine own_to ?_ st105
  refine own_to (V := T105.setTop (mkF m 25 #[sR oa, sR oo101, sI 2, sI 0, sR dv] [(.ref oa), (.ref sd)])) ?_ fun t k => (by
    refine XS.aloadN X105.here hx rfl (hb hby own_d4_24) rfl rfl ?_
    exact k)
  have F108 := (sD'.keep K101 List.not_mem_nil List.not_mem_nil)
  obtain ⟨sE107, sd107, sN107, sk107, sv107, sV107, sC107, sK107, sc107, sb107, sl107⟩ := id F108
  have F110 := (hS.keep K101 List.not_mem_nil List.not_mem_nil)
  obtain ⟨sE109, sd109, sN109, sk109, sv109, sV109, sC109, sK109, sc109, sb109, sl109⟩ := id F110
  obtain ⟨cq106, kq106, q106a, q106b, q106c⟩ := isOf hZ e105 F108.1
  obtain ⟨_, _, ⟨T106, L106, k106, n106⟩, -, X106, ⟨Lc106, hQ106, l106, y106, z106⟩, st106⟩ := X105.virtualBack hx (y := own_mn6) (z := own_mn6) hown (mvT hZ (own_i hw 97 rfl)) (mvT hZ (own_i hw 98 rfl)) (notFace_of_selects (args := #[]) (mvT hZ (own_i hw 100 rfl))) (mvT hZ (own_i hw 100 rfl)) (mvT hZ (own_i hw 99 rfl)) (by decide) (StrChars.Road.eqW (W := 0) hZ (own_heq hw) (kI := 4) (own_i hw 2 rfl) sE107 sV107 sC107 sK107 sc107 sb107 sl107 sE109 sV109 sC109 sK109 sc109 sb109 sl109 (O2.ext Xo101.2) P5 (by decide) (by decide)) q106a q106c (g := (mkF m 25 #[sR oa, sR oo101, sI 2, sI 0, sR dv] [(.ref oa), (.ref sd)])) rfl (by rw [hml]; rfl) (Steps.refl _) (argsL := [(.ref oa)]) (rest := []) (lenOf own_pd5 rfl) rfl (by show 2 * 0 + _ ≤ _; exact Nat.le_of_eq rfl) (hb hby own_d4_25) (fun _ _ => ⟨rfl, e105, (by decide : 1 + 0 ≤ _), (by decide : 2 + 0 ≤ _)⟩)
  dsimp only [own_R, Pt.U, Pt.locs, Pt.cells, Pt.slots] at X106 l106 y106 z106 st106 hQ106
  subst y106 z106
  obtain ⟨hv106, hL106, hh106⟩ := hQ106
  subst hL106
  have N106 : Fr n0 L106 := by rw [l106]; exact Fr.app N101 (Fr.nil n0)
  rcases hv106 with ⟨hv106, hq106⟩ | ⟨hv106, hq106⟩
  · skip
    subst hv106
    refine own_to ?_ (fun t k => st106.trans k)
    refine own_to (V := T106.setTop (mkF m 33 #[sR oa, sR oo101, sI 2, sI 0, sR dv] [(.ref dv)])) ?_ fun t k => (by
      refine XS.ifNo X106.here hx rfl (hb hby own_d4_28) rfl ((if0 _ _).trans (feq ((by decide) : ¬ ((1 : Int32) = (0 : Int32)))).1) ?_
      refine XS.aload X106.here hx rfl (hb hby own_d4_31) rfl rfl ?_
      exact k)
    exact own_retR X106 hx hret (by decide) rfl hlk (hb hby own_d4_33) (by rw [hh106]; exact (Or.inl ⟨rfl, N106, KK101, hq106⟩)) (by decide) (by decide)
  · skip
    subst hv106
    refine own_to ?_ (fun t k => st106.trans k)
    refine own_to (V := T106.setTop (mkF m 16 #[sR oa, sR oo101, sI 2, sI 1, sR dv] [(.int 1), (.ref oo101)])) ?_ fun t k => (by
      refine XS.ifYes X106.here hx rfl (pc0 := 28) (pc' := 34) rfl (hb hby own_d4_28) rfl ((if0 _ _).trans (teq ((by decide) : (0 : Int32) = (0 : Int32))).1) (by decide) (by decide) ?_
      refine XS.iinc X106.here hx rfl (hb hby own_d4_34) rfl (l' := #[sR oa, sR oo101, sI 2, sI 1, sR dv]) rfl ?_
      refine XS.goto X106.here hx rfl (pc0 := 37) (pc' := 9) rfl (hb hby own_d4_37) (by decide) (by decide) ?_
      refine XS.iloadN X106.here hx rfl (hb hby own_d4_9) rfl ?_
      refine XS.iloadN X106.here hx rfl (hb hby own_d4_10) rfl ?_
      refine XS.icmpNo X106.here hx rfl (hb hby own_d4_11) rfl (tlt ((by decide) : (1 : Int32) < (2 : Int32))).2.1 ?_
      refine XS.aloadN X106.here hx rfl (hb hby own_d4_14) rfl rfl ?_
      refine XS.iloadN X106.here hx rfl (hb hby own_d4_15) rfl ?_
      exact k)
    obtain ⟨cl111, Ar111, q111, S111, M111, H111, G111⟩ := id g101_0
    have hin111 : ¬ ((1 : Int32) < 0 ∨ cl111.slots.size ≤ ((1 : Int32)).toNatClampNeg) := inb_of S111 ⟨by decide, by decide⟩
    refine own_to (V := T106.setTop (mkF m 17 #[sR oa, sR oo101, sI 2, sI 1, sR dv] [(.ref pd)])) ?_ (fun t k => X106.aaload hx (j := (1 : Int32)) (v := (.ref pd)) (by rw [hh106]; exact Ar111.1) (State.isArrayOf_alike hZ.alike Ar111.2.1) rfl Ar111.2.2 hin111 (Has.at H111 hin111 rfl) (g := (mkF m 16 #[sR oa, sR oo101, sI 2, sI 1, sR dv] [(.int 1), (.ref oo101)])) rfl rfl (hb hby own_d4_16) t k)
    refine own_to (V := T106.setTop (mkF m 21 #[sR oa, sR oo101, sI 2, sI 1, sR pd] [(.ref pd)])) ?_ fun t k => (by
      refine XS.astore X106.here hx rfl (hb hby own_d4_17) rfl rfl (l' := #[sR oa, sR oo101, sI 2, sI 1, sR pd]) rfl ?_
      refine XS.aload X106.here hx rfl (hb hby own_d4_19) rfl rfl ?_
      exact k)
    have F112 := (fP'.keep K101 List.not_mem_nil)
    obtain ⟨T113, X113, e113, st113⟩ := getF X106 hx hZ hown (host := "") (Or.inl (own_i hw 95 rfl)) Via.refl hh106 F112 (g := (mkF m 21 #[sR oa, sR oo101, sI 2, sI 1, sR pd] [(.ref pd)])) rfl rfl (hb hby own_d4_21)
    refine own_to ?_ st113
    refine own_to (V := T113.setTop (mkF m 25 #[sR oa, sR oo101, sI 2, sI 1, sR pd] [(.ref oa), (.ref sp)])) ?_ fun t k => (by
      refine XS.aloadN X113.here hx rfl (hb hby own_d4_24) rfl rfl ?_
      exact k)
    have F116 := (sP'.keep K101 List.not_mem_nil List.not_mem_nil)
    obtain ⟨sE115, sd115, sN115, sk115, sv115, sV115, sC115, sK115, sc115, sb115, sl115⟩ := id F116
    obtain ⟨sE117, sd117, sN117, sk117, sv117, sV117, sC117, sK117, sc117, sb117, sl117⟩ := id F110
    obtain ⟨cq114, kq114, q114a, q114b, q114c⟩ := isOf hZ e113 F116.1
    obtain ⟨_, _, ⟨T114, L114, k114, n114⟩, -, X114, ⟨Lc114, hQ114, l114, y114, z114⟩, st114⟩ := X113.virtualBack hx (y := own_mn6) (z := own_mn6) hown (mvT hZ (own_i hw 97 rfl)) (mvT hZ (own_i hw 98 rfl)) (notFace_of_selects (args := #[]) (mvT hZ (own_i hw 100 rfl))) (mvT hZ (own_i hw 100 rfl)) (mvT hZ (own_i hw 99 rfl)) (by decide) (StrChars.Road.eqW (W := 0) hZ (own_heq hw) (kI := 4) (own_i hw 2 rfl) sE115 sV115 sC115 sK115 sc115 sb115 sl115 sE117 sV117 sC117 sK117 sc117 sb117 sl117 (O2.ext Xo101.2) P5 (by decide) (by decide)) q114a q114c (g := (mkF m 25 #[sR oa, sR oo101, sI 2, sI 1, sR pd] [(.ref oa), (.ref sp)])) rfl (by rw [hml]; rfl) (Steps.refl _) (argsL := [(.ref oa)]) (rest := []) (lenOf own_pd5 rfl) rfl (by show 2 * 0 + _ ≤ _; exact Nat.le_of_eq rfl) (hb hby own_d4_25) (fun _ _ => ⟨rfl, e113, (by decide : 1 + 0 ≤ _), (by decide : 2 + 0 ≤ _)⟩)
    dsimp only [own_R, Pt.U, Pt.locs, Pt.cells, Pt.slots] at X114 l114 y114 z114 st114 hQ114
    subst y114 z114
    obtain ⟨hv114, hL114, hh114⟩ := hQ114
    subst hL114
    have N114 : Fr n0 L114 := by rw [l114]; exact Fr.app N106 (Fr.nil n0)
    rcases hv114 with ⟨hv114, hq114⟩ | ⟨hv114, hq114⟩
    · skip
      subst hv114
      refine own_to ?_ (fun t k => st114.trans k)
      refine own_to (V := T114.setTop (mkF m 33 #[sR oa, sR oo101, sI 2, sI 1, sR pd] [(.ref pd)])) ?_ fun t k => (by
        refine XS.ifNo X114.here hx rfl (hb hby own_d4_28) rfl ((if0 _ _).trans (feq ((by decide) : ¬ ((1 : Int32) = (0 : Int32)))).1) ?_
        refine XS.aload X114.here hx rfl (hb hby own_d4_31) rfl rfl ?_
        exact k)
      exact own_retR X114 hx hret (by decide) rfl hlk (hb hby own_d4_33) (by rw [hh114]; exact (Or.inr (Or.inl ⟨rfl, N114, KK101, hq106, hq114⟩))) (by decide) (by decide)
    · skip
      subst hv114
      refine own_to ?_ (fun t k => st114.trans k)
      refine own_to (V := T114.setTop (mkF m 41 #[sR oa, sR oo101, sI 2, sI 2, sR pd] [.null])) ?_ fun t k => (by
        refine XS.ifYes X114.here hx rfl (pc0 := 28) (pc' := 34) rfl (hb hby own_d4_28) rfl ((if0 _ _).trans (teq ((by decide) : (0 : Int32) = (0 : Int32))).1) (by decide) (by decide) ?_
        refine XS.iinc X114.here hx rfl (hb hby own_d4_34) rfl (l' := #[sR oa, sR oo101, sI 2, sI 2, sR pd]) rfl ?_
        refine XS.goto X114.here hx rfl (pc0 := 37) (pc' := 9) rfl (hb hby own_d4_37) (by decide) (by decide) ?_
        refine XS.iloadN X114.here hx rfl (hb hby own_d4_9) rfl ?_
        refine XS.iloadN X114.here hx rfl (hb hby own_d4_10) rfl ?_
        refine XS.icmpYes X114.here hx rfl (pc0 := 11) (pc' := 40) rfl (hb hby own_d4_11) rfl (flt ((by decide) : ¬ ((2 : Int32) < (2 : Int32)))).2.1 (by decide) (by decide) ?_
        refine XS.aconstNull X114.here hx rfl (hb hby own_d4_40) ?_
        exact k)
      exact own_retR X114 hx hret (by decide) rfl hlk (hb hby own_d4_41) (by rw [hh114]; exact (Or.inr (Or.inr (⟨rfl, N114, KK101, hq106, hq114⟩)))) (by decide) (by decide)
def own_Qlaw (Z : State) (p0 : Int32) (p1 : Int32) (p2 : Int32) (dv : Addr) (pd : Addr) (h0 : Heap) (n0 : Nat) (v : Option Value) (h : Heap) (L : List Loc) : Prop := (v = some (.int 1) ∧ Fr n0 L ∧ Keep h0 h [])
set_option maxRecDepth 65536 in
set_option maxHeartbeats 40000000 in
theorem own_sglr (l : Launch) (Z : State) (a0 : Array Value) (hw : ∀ d ∈ tables_1, d.before a0 Z = true) (hst : own_St Z) (p0 : Int32) (p1 : Int32) (p2 : Int32) (dv : Addr) (pd : Addr) (h0 : Heap) (n0 : Nat) (v3 : Int32) (a4 : Addr) (a5 : Addr) (v6 : Int32) (v7 : Int32) (v8 : Int32) (v9 : Int32) (s12 : Slot) (oa : Addr) (ua : Addr) (ve : Value) (cs : List Int32)
    {p : Program} {e : Env} {s : State} {m : MethodId} {args : Array Value} {below : List Frame} {meth : Method} {c : Code} (hx : p.tables.exec = Jvm.exec) (hby : c.code = code) (hret : meth.sig.returnType = ret) (hlk : meth.locks = false) (hml : c.maxLocals = 13) (hnm : meth.name = "law") {vm0 : Vm} {k0 : Nat} (hS0 : s.Since vm0 k0) (hh : s.heap = h0) (hZ : Z.Warmed39 (s.setVm vm0).vm) (hown : (s.setVm vm0).vm.findClass "com/example/tallowlark/tallowlark/server/StageFromArgumentPinLaw" = some m.cls)
    {T0 : State} {locs : List Loc} {h : Heap} (X0 : Stand p l e room_1 (s.setVm vm0) m args below meth c T0 locs 12 200) (e0 : T0.heap = h) (hk0 : k0 ≤ h.size) (Ch0 : CHr Z consts_1 s.vm h0 vm0 h) (N0 : Fr n0 locs) (Xo0 : Old Z n0 h) (KK0 : Keep h0 h []) (hR : own_Stg Z dv pd) (re : ve.isRef = true) (hS : own_Str Z h oa ua cs) (hX : (([(68 : Int32), (101 : Int32), (118 : Int32), (101 : Int32), (108 : Int32), (111 : Int32), (112 : Int32), (109 : Int32), (101 : Int32), (110 : Int32), (116 : Int32)] : List Int32) = cs ∧ ve = .ref dv) ∨ (([(80 : Int32), (114 : Int32), (111 : Int32), (100 : Int32), (117 : Int32), (99 : Int32), (116 : Int32), (105 : Int32), (111 : Int32), (110 : Int32)] : List Int32) = cs ∧ ve = .ref pd) ∨ (¬ ([(68 : Int32), (101 : Int32), (118 : Int32), (101 : Int32), (108 : Int32), (111 : Int32), (112 : Int32), (109 : Int32), (101 : Int32), (110 : Int32), (116 : Int32)] : List Int32) = cs ∧ ¬ ([(80 : Int32), (114 : Int32), (111 : Int32), (100 : Int32), (117 : Int32), (99 : Int32), (116 : Int32), (105 : Int32), (111 : Int32), (110 : Int32)] : List Int32) = cs ∧ ve = .null)) :
    own_Go p e below (own_PostH Z s (own_Qlaw Z p0 p1 p2 dv pd h0 n0) room_1.cells room_1.slots) (T0.setTop (mkF m 257 #[sI p0, sI p1, sI p2, sI v3, sR a4, sR a5, sI v6, sI v7, sI v8, sI v9, sR oa, .val ve, s12] [])) := by
  obtain ⟨⟨G1, O2, P5⟩, ⟨G3, O4, rG3⟩, -⟩ := id hst
  obtain ⟨oD, oP, eD, eP, va, kV, sd, ud, sp, up, oV, eV, aV, fD, fP, sD, sP⟩ := id hR
  refine own_to (V := T0.setTop (mkF m 259 #[sI p0, sI p1, sI p2, sI v3, sR a4, sR a5, sI v6, sI v7, sI v8, sI v9, sR oa, .val ve, s12] [(.ref oa)])) ?_ fun t k => (by
    refine XS.aload X0.here hx rfl (hb hby at_257) rfl rfl ?_
    exact k)
  obtain ⟨_, _, ⟨T101, L101, k101, n101⟩, -, X101, ⟨Lc101, hQ101, l101, y101, z101⟩, st101⟩ := Jvm.LawKit.callS X0 hx (y := own_mn7) hown (mvT hZ (own_i hw 76 rfl)) (mvT hZ (own_i hw 77 rfl)) (mvT hZ (own_i hw 9 rfl)) (mvT hZ (own_i hw 78 rfl)) (by decide) (backOf (W := 0) (own_rmfa1 l Z a0 hw hst [] dv pd oa ua cs h n0 Xo0 hR hS) hZ (own_i hw 78 rfl) (own_i hw 9 rfl) (by decide) (by decide)) (g := (mkF m 259 #[sI p0, sI p1, sI p2, sI v3, sR a4, sR a5, sI v6, sI v7, sI v8, sI v9, sR oa, .val ve, s12] [(.ref oa)])) rfl (by rw [hml]; rfl) (argsL := [(.ref oa)]) (rest := []) (lenOf own_pd6 rfl) rfl (by show 2 * 0 + _ ≤ _; exact Nat.le_of_eq rfl) (hb hby at_259) (fun _ _ => ⟨rfl, e0, (by decide : 12 + 1 ≤ _), (by decide : 200 + 2 ≤ _)⟩)
  dsimp only [own_R, Pt.U, Pt.locs, Pt.cells, Pt.slots] at X101 l101 y101 z101 st101 hQ101
  subst y101 z101
  rcases hQ101 with ⟨hv101, N101q, K101, g101_0⟩ | ⟨hv101, N101q, K101, g101_0, g101_1⟩ | ⟨hv101, N101q, K101, g101_0, g101_1⟩
  · skip
    subst hv101
    obtain ⟨h101, e101⟩ : ∃ z, T101.heap = z := ⟨_, rfl⟩
    rw [e101] at K101
    have Cs101 : CHr Z consts_1 vm0 h vm0 h101 := CHr.keep K101 sf0 Ch0.1
    have Ch101 := Ch0.trans Cs101
    have Xo101 := Xo0.keep K101 all0
    have KK101 := KK0.trans K101 all0
    have N101 : Fr n0 L101 := by rw [l101]; exact Fr.app N0 N101q
    refine own_to ?_ st101
    refine own_to (V := T101.setTop (mkF m 264 #[sI p0, sI p1, sI p2, sI v3, sR a4, sR a5, sI v6, sI v7, sI v8, sI v9, sR oa, .val ve, s12] [ve, (.ref dv)])) ?_ fun t k => (by
      refine XS.aload X101.here hx rfl (hb hby at_262) rfl re ?_
      exact k)
    refine own_to (V := T101.setTop (mkF m 272 #[sI p0, sI p1, sI p2, sI v3, sR a4, sR a5, sI v6, sI v7, sI v8, sI v9, sR oa, .val ve, s12] [(.int 1)])) ?_ fun t k => (by
      refine Jvm.RoadKit.acmp (g := (mkF m 264 #[sI p0, sI p1, sI p2, sI v3, sR a4, sR a5, sI v6, sI v7, sI v8, sI v9, sR oa, .val ve, s12] [ve, (.ref dv)])) X101 hx rfl rfl re (pc0 := 264) (pc' := 267) (same := true) rfl (hb hby at_264) rfl (decide_eq_true (own_x1 hX g101_0)) (by decide) (by decide) ?_
      refine XS.iconst X101.here hx rfl (hb hby at_267) ?_
      refine XS.goto X101.here hx rfl (pc0 := 268) (pc' := 272) rfl (hb hby at_268) (by decide) (by decide) ?_
      exact k)
    exact own_retNH X101 hx hS0 (own_hk e101 (Nat.le_trans hk0 K101.1)) (by rw [e101, hh]; exact Ch101.trans (CHv.at X101 hZ (own_hEL hw) Ch101.1)) (t := .boolean) (w := (1 : Int32)) hret (by decide) rfl hlk (hb hby at_272) (by rw [e101]; exact (⟨rfl, N101, KK101⟩)) (by decide) (by decide)
  · skip
    subst hv101
    obtain ⟨h101, e101⟩ : ∃ z, T101.heap = z := ⟨_, rfl⟩
    rw [e101] at K101
    have Cs101 : CHr Z consts_1 vm0 h vm0 h101 := CHr.keep K101 sf0 Ch0.1
    have Ch101 := Ch0.trans Cs101
    have Xo101 := Xo0.keep K101 all0
    have KK101 := KK0.trans K101 all0
    have N101 : Fr n0 L101 := by rw [l101]; exact Fr.app N0 N101q
    refine own_to ?_ st101
    refine own_to (V := T101.setTop (mkF m 264 #[sI p0, sI p1, sI p2, sI v3, sR a4, sR a5, sI v6, sI v7, sI v8, sI v9, sR oa, .val ve, s12] [ve, (.ref pd)])) ?_ fun t k => (by
      refine XS.aload X101.here hx rfl (hb hby at_262) rfl re ?_
      exact k)
    refine own_to (V := T101.setTop (mkF m 272 #[sI p0, sI p1, sI p2, sI v3, sR a4, sR a5, sI v6, sI v7, sI v8, sI v9, sR oa, .val ve, s12] [(.int 1)])) ?_ fun t k => (by
      refine Jvm.RoadKit.acmp (g := (mkF m 264 #[sI p0, sI p1, sI p2, sI v3, sR a4, sR a5, sI v6, sI v7, sI v8, sI v9, sR oa, .val ve, s12] [ve, (.ref pd)])) X101 hx rfl rfl re (pc0 := 264) (pc' := 267) (same := true) rfl (hb hby at_264) rfl (decide_eq_true (own_x2 hX g101_0 g101_1)) (by decide) (by decide) ?_
      refine XS.iconst X101.here hx rfl (hb hby at_267) ?_
      refine XS.goto X101.here hx rfl (pc0 := 268) (pc' := 272) rfl (hb hby at_268) (by decide) (by decide) ?_
      exact k)
    exact own_retNH X101 hx hS0 (own_hk e101 (Nat.le_trans hk0 K101.1)) (by rw [e101, hh]; exact Ch101.trans (CHv.at X101 hZ (own_hEL hw) Ch101.1)) (t := .boolean) (w := (1 : Int32)) hret (by decide) rfl hlk (hb hby at_272) (by rw [e101]; exact (⟨rfl, N101, KK101⟩)) (by decide) (by decide)
  · skip
    subst hv101
    obtain ⟨h101, e101⟩ : ∃ z, T101.heap = z := ⟨_, rfl⟩
    rw [e101] at K101
    have Cs101 : CHr Z consts_1 vm0 h vm0 h101 := CHr.keep K101 sf0 Ch0.1
    have Ch101 := Ch0.trans Cs101
    have Xo101 := Xo0.keep K101 all0
    have KK101 := KK0.trans K101 all0
    have N101 : Fr n0 L101 := by rw [l101]; exact Fr.app N0 N101q
    refine own_to ?_ st101
    refine own_to (V := T101.setTop (mkF m 264 #[sI p0, sI p1, sI p2, sI v3, sR a4, sR a5, sI v6, sI v7, sI v8, sI v9, sR oa, .val ve, s12] [ve, .null])) ?_ fun t k => (by
      refine XS.aload X101.here hx rfl (hb hby at_262) rfl re ?_
      exact k)
    refine own_to (V := T101.setTop (mkF m 272 #[sI p0, sI p1, sI p2, sI v3, sR a4, sR a5, sI v6, sI v7, sI v8, sI v9, sR oa, .val ve, s12] [(.int 1)])) ?_ fun t k => (by
      refine Jvm.RoadKit.acmp (g := (mkF m 264 #[sI p0, sI p1, sI p2, sI v3, sR a4, sR a5, sI v6, sI v7, sI v8, sI v9, sR oa, .val ve, s12] [ve, .null])) X101 hx rfl rfl re (pc0 := 264) (pc' := 267) (same := true) rfl (hb hby at_264) rfl (decide_eq_true (own_x3 hX g101_0 g101_1)) (by decide) (by decide) ?_
      refine XS.iconst X101.here hx rfl (hb hby at_267) ?_
      refine XS.goto X101.here hx rfl (pc0 := 268) (pc' := 272) rfl (hb hby at_268) (by decide) (by decide) ?_
      exact k)
    exact own_retNH X101 hx hS0 (own_hk e101 (Nat.le_trans hk0 K101.1)) (by rw [e101, hh]; exact Ch101.trans (CHv.at X101 hZ (own_hEL hw) Ch101.1)) (t := .boolean) (w := (1 : Int32)) hret (by decide) rfl hlk (hb hby at_272) (by rw [e101]; exact (⟨rfl, N101, KK101⟩)) (by decide) (by decide)
set_option maxRecDepth 65536 in
set_option maxHeartbeats 40000000 in
theorem own_sgln (l : Launch) (Z : State) (a0 : Array Value) (hw : ∀ d ∈ tables_1, d.before a0 Z = true) (hst : own_St Z) (p0 : Int32) (p1 : Int32) (p2 : Int32) (dv : Addr) (pd : Addr) (h0 : Heap) (n0 : Nat) (v3 : Int32) (a4 : Addr) (a5 : Addr) (v6 : Int32) (v7 : Int32) (v8 : Int32) (v9 : Int32) (s12 : Slot)
    {p : Program} {e : Env} {s : State} {m : MethodId} {args : Array Value} {below : List Frame} {meth : Method} {c : Code} (hx : p.tables.exec = Jvm.exec) (hby : c.code = code) (hret : meth.sig.returnType = ret) (hlk : meth.locks = false) (hml : c.maxLocals = 13) (hnm : meth.name = "law") {vm0 : Vm} {k0 : Nat} (hS0 : s.Since vm0 k0) (hh : s.heap = h0) (hZ : Z.Warmed39 (s.setVm vm0).vm) (hown : (s.setVm vm0).vm.findClass "com/example/tallowlark/tallowlark/server/StageFromArgumentPinLaw" = some m.cls)
    {T0 : State} {locs : List Loc} {h : Heap} (X0 : Stand p l e room_1 (s.setVm vm0) m args below meth c T0 locs 12 200) (e0 : T0.heap = h) (hk0 : k0 ≤ h.size) (Ch0 : CHr Z consts_1 s.vm h0 vm0 h) (N0 : Fr n0 locs) (Xo0 : Old Z n0 h) (KK0 : Keep h0 h []) (hR : own_Stg Z dv pd) :
    own_Go p e below (own_PostH Z s (own_Qlaw Z p0 p1 p2 dv pd h0 n0) room_1.cells room_1.slots) (T0.setTop (mkF m 257 #[sI p0, sI p1, sI p2, sI v3, sR a4, sR a5, sI v6, sI v7, sI v8, sI v9, .val .null, .val .null, s12] [])) := by
  obtain ⟨⟨G1, O2, P5⟩, ⟨G3, O4, rG3⟩, -⟩ := id hst
  obtain ⟨oD, oP, eD, eP, va, kV, sd, ud, sp, up, oV, eV, aV, fD, fP, sD, sP⟩ := id hR
  refine own_to (V := T0.setTop (mkF m 259 #[sI p0, sI p1, sI p2, sI v3, sR a4, sR a5, sI v6, sI v7, sI v8, sI v9, .val .null, .val .null, s12] [.null])) ?_ fun t k => (by
    refine XS.aload X0.here hx rfl (hb hby at_257) rfl rfl ?_
    exact k)
  obtain ⟨_, _, ⟨T101, L101, k101, n101⟩, -, X101, ⟨Lc101, hQ101, l101, y101, z101⟩, st101⟩ := Jvm.LawKit.callS X0 hx (y := own_mn7) hown (mvT hZ (own_i hw 76 rfl)) (mvT hZ (own_i hw 77 rfl)) (mvT hZ (own_i hw 9 rfl)) (mvT hZ (own_i hw 78 rfl)) (by decide) (backOf (W := 0) (own_rmfa0 l Z a0 hw hst [] dv pd h n0 Xo0 hR) hZ (own_i hw 78 rfl) (own_i hw 9 rfl) (by decide) (by decide)) (g := (mkF m 259 #[sI p0, sI p1, sI p2, sI v3, sR a4, sR a5, sI v6, sI v7, sI v8, sI v9, .val .null, .val .null, s12] [.null])) rfl (by rw [hml]; rfl) (argsL := [.null]) (rest := []) (lenOf own_pd6 rfl) rfl (by show 2 * 0 + _ ≤ _; exact Nat.le_of_eq rfl) (hb hby at_259) (fun _ _ => ⟨rfl, e0, (by decide : 12 + 1 ≤ _), (by decide : 200 + 2 ≤ _)⟩)
  dsimp only [own_R, Pt.U, Pt.locs, Pt.cells, Pt.slots] at X101 l101 y101 z101 st101 hQ101
  subst y101 z101
  obtain ⟨hv101, N101q, K101⟩ := hQ101
  subst hv101
  obtain ⟨h101, e101⟩ : ∃ z, T101.heap = z := ⟨_, rfl⟩
  rw [e101] at K101
  have Cs101 : CHr Z consts_1 vm0 h vm0 h101 := CHr.keep K101 sf0 Ch0.1
  have Ch101 := Ch0.trans Cs101
  have Xo101 := Xo0.keep K101 all0
  have KK101 := KK0.trans K101 all0
  have N101 : Fr n0 L101 := by rw [l101]; exact Fr.app N0 N101q
  refine own_to ?_ st101
  refine own_to (V := T101.setTop (mkF m 264 #[sI p0, sI p1, sI p2, sI v3, sR a4, sR a5, sI v6, sI v7, sI v8, sI v9, .val .null, .val .null, s12] [.null, .null])) ?_ fun t k => (by
    refine XS.aload X101.here hx rfl (hb hby at_262) rfl rfl ?_
    exact k)
  refine own_to (V := T101.setTop (mkF m 272 #[sI p0, sI p1, sI p2, sI v3, sR a4, sR a5, sI v6, sI v7, sI v8, sI v9, .val .null, .val .null, s12] [(.int 1)])) ?_ fun t k => (by
    refine Jvm.RoadKit.acmp (g := (mkF m 264 #[sI p0, sI p1, sI p2, sI v3, sR a4, sR a5, sI v6, sI v7, sI v8, sI v9, .val .null, .val .null, s12] [.null, .null])) X101 hx rfl rfl rfl (pc0 := 264) (pc' := 267) (same := true) rfl (hb hby at_264) rfl (decide_eq_true rfl) (by decide) (by decide) ?_
    refine XS.iconst X101.here hx rfl (hb hby at_267) ?_
    refine XS.goto X101.here hx rfl (pc0 := 268) (pc' := 272) rfl (hb hby at_268) (by decide) (by decide) ?_
    exact k)
  exact own_retNH X101 hx hS0 (own_hk e101 (Nat.le_trans hk0 K101.1)) (by rw [e101, hh]; exact Ch101.trans (CHv.at X101 hZ (own_hEL hw) Ch101.1)) (t := .boolean) (w := (1 : Int32)) hret (by decide) rfl hlk (hb hby at_272) (by rw [e101]; exact (⟨rfl, N101, KK101⟩)) (by decide) (by decide)
set_option maxRecDepth 65536 in
set_option maxHeartbeats 40000000 in
theorem own_sglcP (l : Launch) (Z : State) (a0 : Array Value) (hw : ∀ d ∈ tables_1, d.before a0 Z = true) (hst : own_St Z) (p0 : Int32) (p1 : Int32) (p2 : Int32) (dv : Addr) (pd : Addr) (h0 : Heap) (n0 : Nat) (a4 : Addr) (ua : Addr) (v7 : Int32) (v8 : Int32) (v9 : Int32) (ch : Int32) (oo : Addr) (ou : Addr)
    {p : Program} {e : Env} {s : State} {m : MethodId} {args : Array Value} {below : List Frame} {meth : Method} {c : Code} (hx : p.tables.exec = Jvm.exec) (hby : c.code = code) (hret : meth.sig.returnType = ret) (hlk : meth.locks = false) (hml : c.maxLocals = 13) (hnm : meth.name = "law") {vm0 : Vm} {k0 : Nat} (hS0 : s.Since vm0 k0) (hh : s.heap = h0) (hZ : Z.Warmed39 (s.setVm vm0).vm) (hown : (s.setVm vm0).vm.findClass "com/example/tallowlark/tallowlark/server/StageFromArgumentPinLaw" = some m.cls)
    {T0 : State} {locs : List Loc} {h : Heap} (X0 : Stand p l e room_1 (s.setVm vm0) m args below meth c T0 locs 11 190) (e0 : T0.heap = h) (hk0 : k0 ≤ h.size) (Ch0 : CHr Z consts_1 s.vm h0 vm0 h) (N0 : Fr n0 locs) (Xo0 : Old Z n0 h) (KK0 : Keep h0 h []) (hR : own_Stg Z dv pd) (hS : own_Str Z h a4 ua ([(80 : Int32), (114 : Int32), (111 : Int32), (100 : Int32), (117 : Int32), (99 : Int32), (116 : Int32), (105 : Int32), (111 : Int32), (110 : Int32)] : List Int32)) (hO : own_Str Z h oo ou ([(own_at (0 : Int32) v9 v8 (80 : Int32)), (own_at (1 : Int32) v9 v8 (114 : Int32)), (own_at (2 : Int32) v9 v8 (111 : Int32)), (own_at (3 : Int32) v9 v8 (100 : Int32)), (own_at (4 : Int32) v9 v8 (117 : Int32)), (own_at (5 : Int32) v9 v8 (99 : Int32)), (own_at (6 : Int32) v9 v8 (116 : Int32)), (own_at (7 : Int32) v9 v8 (105 : Int32)), (own_at (8 : Int32) v9 v8 (111 : Int32)), (own_at (9 : Int32) v9 v8 (110 : Int32))] : List Int32)) (hd : (v9 = (0 : Int32) ∧ ch = (80 : Int32)) ∨ (v9 = (1 : Int32) ∧ ch = (114 : Int32)) ∨ (v9 = (2 : Int32) ∧ ch = (111 : Int32)) ∨ (v9 = (3 : Int32) ∧ ch = (100 : Int32)) ∨ (v9 = (4 : Int32) ∧ ch = (117 : Int32)) ∨ (v9 = (5 : Int32) ∧ ch = (99 : Int32)) ∨ (v9 = (6 : Int32) ∧ ch = (116 : Int32)) ∨ (v9 = (7 : Int32) ∧ ch = (105 : Int32)) ∨ (v9 = (8 : Int32) ∧ ch = (111 : Int32)) ∨ (v9 = (9 : Int32) ∧ ch = (110 : Int32))) :
    own_Go p e below (own_PostH Z s (own_Qlaw Z p0 p1 p2 dv pd h0 n0) room_1.cells room_1.slots) (T0.setTop (mkF m 130 #[sI p0, sI p1, sI p2, sI 1, sR a4, sR pd, sI 10, sI v7, sI v8, sI v9, sR oo, .unset, .unset] [(.int ch), (.int v8)])) := by
  obtain ⟨⟨G1, O2, P5⟩, ⟨G3, O4, rG3⟩, -⟩ := id hst
  obtain ⟨oD, oP, eD, eP, va, kV, sd, ud, sp, up, oV, eV, aV, fD, fP, sD, sP⟩ := id hR
  by_cases hc130_101 : v8 = ch
  · skip
    refine own_to (V := T0.setTop (mkF m 257 #[sI p0, sI p1, sI p2, sI 1, sR a4, sR pd, sI 10, sI v7, sI v8, sI v9, sR oo, sR pd, .unset] [])) ?_ fun t k => (by
      refine XS.icmpNo X0.here hx rfl (hb hby at_130) rfl (teq (hc130_101 : v8 = ch)).2 ?_
      refine XS.aload X0.here hx rfl (hb hby at_133) rfl rfl ?_
      refine XS.goto X0.here hx rfl (pc0 := 135) (pc' := 139) rfl (hb hby at_135) (by decide) (by decide) ?_
      refine XS.astore X0.here hx rfl (hb hby at_139) rfl rfl (l' := #[sI p0, sI p1, sI p2, sI 1, sR a4, sR pd, sI 10, sI v7, sI v8, sI v9, sR oo, sR pd, .unset]) rfl ?_
      refine XS.goto X0.here hx rfl (pc0 := 141) (pc' := 257) rfl (hb hby at_141) (by decide) (by decide) ?_
      exact k)
    exact own_sglr l Z a0 hw hst p0 p1 p2 dv pd h0 n0 (1 : Int32) a4 pd (10 : Int32) v7 v8 v9 .unset oo ou (.ref pd) ([(own_at (0 : Int32) v9 v8 (80 : Int32)), (own_at (1 : Int32) v9 v8 (114 : Int32)), (own_at (2 : Int32) v9 v8 (111 : Int32)), (own_at (3 : Int32) v9 v8 (100 : Int32)), (own_at (4 : Int32) v9 v8 (117 : Int32)), (own_at (5 : Int32) v9 v8 (99 : Int32)), (own_at (6 : Int32) v9 v8 (116 : Int32)), (own_at (7 : Int32) v9 v8 (105 : Int32)), (own_at (8 : Int32) v9 v8 (111 : Int32)), (own_at (9 : Int32) v9 v8 (110 : Int32))] : List Int32) hx hby hret hlk hml hnm hS0 hh hZ hown (X0.wide (L' := _) (cells' := 12) (slots' := 200) (fun x hx _ => hx) (by decide) (by decide)) e0 hk0 Ch0 N0 Xo0 KK0 hR rfl hO (Or.inr (Or.inl ⟨(own_psP hd hc130_101), rfl⟩))
  · skip
    refine own_to (V := T0.setTop (mkF m 257 #[sI p0, sI p1, sI p2, sI 1, sR a4, sR pd, sI 10, sI v7, sI v8, sI v9, sR oo, .val .null, .unset] [])) ?_ fun t k => (by
      refine XS.icmpYes X0.here hx rfl (pc0 := 130) (pc' := 138) rfl (hb hby at_130) rfl (feq (hc130_101 : ¬ (v8 = ch))).2 (by decide) (by decide) ?_
      refine XS.aconstNull X0.here hx rfl (hb hby at_138) ?_
      refine XS.astore X0.here hx rfl (hb hby at_139) rfl rfl (l' := #[sI p0, sI p1, sI p2, sI 1, sR a4, sR pd, sI 10, sI v7, sI v8, sI v9, sR oo, .val .null, .unset]) rfl ?_
      refine XS.goto X0.here hx rfl (pc0 := 141) (pc' := 257) rfl (hb hby at_141) (by decide) (by decide) ?_
      exact k)
    exact own_sglr l Z a0 hw hst p0 p1 p2 dv pd h0 n0 (1 : Int32) a4 pd (10 : Int32) v7 v8 v9 .unset oo ou .null ([(own_at (0 : Int32) v9 v8 (80 : Int32)), (own_at (1 : Int32) v9 v8 (114 : Int32)), (own_at (2 : Int32) v9 v8 (111 : Int32)), (own_at (3 : Int32) v9 v8 (100 : Int32)), (own_at (4 : Int32) v9 v8 (117 : Int32)), (own_at (5 : Int32) v9 v8 (99 : Int32)), (own_at (6 : Int32) v9 v8 (116 : Int32)), (own_at (7 : Int32) v9 v8 (105 : Int32)), (own_at (8 : Int32) v9 v8 (111 : Int32)), (own_at (9 : Int32) v9 v8 (110 : Int32))] : List Int32) hx hby hret hlk hml hnm hS0 hh hZ hown (X0.wide (L' := _) (cells' := 12) (slots' := 200) (fun x hx _ => hx) (by decide) (by decide)) e0 hk0 Ch0 N0 Xo0 KK0 hR rfl hO (Or.inr (Or.inr ⟨(own_lnP _ _), (own_ngP hd hc130_101), rfl⟩))
set_option maxRecDepth 65536 in
set_option maxHeartbeats 40000000 in
theorem own_sglbP (l : Launch) (Z : State) (a0 : Array Value) (hw : ∀ d ∈ tables_1, d.before a0 Z = true) (hst : own_St Z) (p0 : Int32) (p1 : Int32) (p2 : Int32) (dv : Addr) (pd : Addr) (h0 : Heap) (n0 : Nat) (a4 : Addr) (ua : Addr) (v7 : Int32) (v8 : Int32) (v9 : Int32)
    {p : Program} {e : Env} {s : State} {m : MethodId} {args : Array Value} {below : List Frame} {meth : Method} {c : Code} (hx : p.tables.exec = Jvm.exec) (hby : c.code = code) (hret : meth.sig.returnType = ret) (hlk : meth.locks = false) (hml : c.maxLocals = 13) (hnm : meth.name = "law") {vm0 : Vm} {k0 : Nat} (hS0 : s.Since vm0 k0) (hh : s.heap = h0) (hZ : Z.Warmed39 (s.setVm vm0).vm) (hown : (s.setVm vm0).vm.findClass "com/example/tallowlark/tallowlark/server/StageFromArgumentPinLaw" = some m.cls)
    {T0 : State} {locs : List Loc} {h : Heap} (X0 : Stand p l e room_1 (s.setVm vm0) m args below meth c T0 locs 2 50) (e0 : T0.heap = h) (hk0 : k0 ≤ h.size) (Ch0 : CHr Z consts_1 s.vm h0 vm0 h) (N0 : Fr n0 locs) (Xo0 : Old Z n0 h) (KK0 : Keep h0 h []) (hR : own_Stg Z dv pd) (hS : own_Str Z h a4 ua ([(80 : Int32), (114 : Int32), (111 : Int32), (100 : Int32), (117 : Int32), (99 : Int32), (116 : Int32), (105 : Int32), (111 : Int32), (110 : Int32)] : List Int32)) (hi : v9 = (0 : Int32) ∨ v9 = (1 : Int32) ∨ v9 = (2 : Int32) ∨ v9 = (3 : Int32) ∨ v9 = (4 : Int32) ∨ v9 = (5 : Int32) ∨ v9 = (6 : Int32) ∨ v9 = (7 : Int32) ∨ v9 = (8 : Int32) ∨ v9 = (9 : Int32)) (h8 : ¬ v8 < 0 ∧ ¬ (255 : Int32) < v8) :
    own_Go p e below (own_PostH Z s (own_Qlaw Z p0 p1 p2 dv pd h0 n0) room_1.cells room_1.slots) (T0.setTop (mkF m 108 #[sI p0, sI p1, sI p2, sI 1, sR a4, sR pd, sI 10, sI v7, sI v8, sI v9, .unset, .unset, .unset] [])) := by
  obtain ⟨⟨G1, O2, P5⟩, ⟨G3, O4, rG3⟩, -⟩ := id hst
  obtain ⟨oD, oP, eD, eP, va, kV, sd, ud, sp, up, oV, eV, aV, fD, fP, sD, sP⟩ := id hR
  refine own_to (V := T0.setTop (mkF m 116 #[sI p0, sI p1, sI p2, sI 1, sR a4, sR pd, sI 10, sI v7, sI v8, sI v9, .unset, .unset, .unset] [(.int v8), (.int v9), (.int 10), (.ref a4)])) ?_ fun t k => (by
    refine XS.aload X0.here hx rfl (hb hby at_108) rfl rfl ?_
    refine XS.iload X0.here hx rfl (hb hby at_110) rfl ?_
    refine XS.iload X0.here hx rfl (hb hby at_112) rfl ?_
    refine XS.iload X0.here hx rfl (hb hby at_114) rfl ?_
    exact k)
  obtain ⟨_, _, ⟨T101, L101, k101, n101⟩, -, X101, ⟨Lc101, hQ101, l101, y101, z101⟩, st101⟩ := Jvm.LawKit.callS X0 hx (y := own_mn3) hown (mvT hZ (own_i hw 25 rfl)) (mvT hZ (own_i hw 26 rfl)) (mvT hZ (own_i hw 27 rfl)) (mvT hZ (own_i hw 28 rfl)) (by decide) (backOf (W := 0) (own_rmmkP10 l Z a0 hw hst [] a4 ua v9 v8 h n0 Xo0 hS h8) hZ (own_i hw 28 rfl) (own_i hw 27 rfl) (by decide) (by decide)) (g := (mkF m 116 #[sI p0, sI p1, sI p2, sI 1, sR a4, sR pd, sI 10, sI v7, sI v8, sI v9, .unset, .unset, .unset] [(.int v8), (.int v9), (.int 10), (.ref a4)])) rfl (by rw [hml]; rfl) (argsL := [(.ref a4), (.int 10), (.int v9), (.int v8)]) (rest := []) (lenOf own_pd7 rfl) rfl (by show 2 * 0 + _ ≤ _; exact Nat.le_of_eq rfl) (hb hby at_116) (fun _ _ => ⟨rfl, e0, (by decide : 2 + 3 ≤ _), (by decide : 50 + 24 ≤ _)⟩)
  dsimp only [own_R, Pt.U, Pt.locs, Pt.cells, Pt.slots] at X101 l101 y101 z101 st101 hQ101
  subst y101 z101
  obtain ⟨oo101, ou101, hv101, N101q, K101, g101_0⟩ := hQ101
  subst hv101
  obtain ⟨h101, e101⟩ : ∃ z, T101.heap = z := ⟨_, rfl⟩
  rw [e101] at K101 g101_0
  have Cs101 : CHr Z consts_1 vm0 h vm0 h101 := CHr.keep K101 sf0 Ch0.1
  have Ch101 := Ch0.trans Cs101
  have Xo101 := Xo0.keep K101 all0
  have KK101 := KK0.trans K101 all0
  have N101 : Fr n0 L101 := by rw [l101]; exact Fr.app N0 N101q
  refine own_to ?_ st101
  refine own_to (V := T101.setTop (mkF m 121 #[sI p0, sI p1, sI p2, sI 1, sR a4, sR pd, sI 10, sI v7, sI v8, sI v9, sR oo101, .unset, .unset] [])) ?_ fun t k => (by
    refine XS.astore X101.here hx rfl (hb hby at_119) rfl rfl (l' := #[sI p0, sI p1, sI p2, sI 1, sR a4, sR pd, sI 10, sI v7, sI v8, sI v9, sR oo101, .unset, .unset]) rfl ?_
    exact k)
  rcases hi with hcv102_0 | hcv103_1 | hcv104_2 | hcv105_3 | hcv106_4 | hcv107_5 | hcv108_6 | hcv109_7 | hcv110_8 | hcv111_9
  · skip
    subst hcv102_0
    refine own_to (V := T101.setTop (mkF m 127 #[sI p0, sI p1, sI p2, sI 1, sR a4, sR pd, sI 10, sI v7, sI v8, sI 0, sR oo101, .unset, .unset] [(.int 0), (.ref a4), (.int v8)])) ?_ fun t k => (by
      refine XS.iload X101.here hx rfl (hb hby at_121) rfl ?_
      refine XS.aload X101.here hx rfl (hb hby at_123) rfl rfl ?_
      refine XS.iload X101.here hx rfl (hb hby at_125) rfl ?_
      exact k)
    have F114 := (hS.keep K101 List.not_mem_nil List.not_mem_nil)
    obtain ⟨sN113, sk113, sv113, sE113, sV113, sC113, sK113, sc113, sb113, sl113⟩ := own_Str.latin F114 (own_lat2 (own_allS (by decide) (own_allS (by decide) (own_allS (by decide) (own_allS (by decide) (own_allS (by decide) (own_allS (by decide) (own_allS (by decide) (own_allS (by decide) (own_allS (by decide) (own_allS (by decide) own_all0)))))))))))
    obtain ⟨cq112, kq112, q112a, q112b, q112c⟩ := isOf hZ e101 F114.1
    obtain ⟨_, _, ⟨T112, L112, k112, n112⟩, -, X112, ⟨Lc112, hQ112, l112, y112, z112⟩, st112⟩ := X101.virtualBack hx (y := own_mn2) (z := own_mn2) hown (mvT hZ (own_i hw 33 rfl)) (mvT hZ (own_i hw 34 rfl)) (notFace_of_selects (args := #[]) (mvT hZ (own_i hw 36 rfl))) (mvT hZ (own_i hw 36 rfl)) (mvT hZ (own_i hw 35 rfl)) (by decide) (StrChars.Road.chN (W := 1) hZ (own_hch hw) (kI := 4) (own_i hw 2 rfl) sE113 sV113 sC113 sK113 sc113 sb113 (O2.ext Xo101.2) P5 (O4.ext Xo101.2) rG3 sl113 (i := 0) (Nat.le_of_ble_eq_true rfl) (j := (0 : Int32)) rfl (by decide) (by decide)) q112a q112c (g := (mkF m 127 #[sI p0, sI p1, sI p2, sI 1, sR a4, sR pd, sI 10, sI v7, sI v8, sI 0, sR oo101, .unset, .unset] [(.int 0), (.ref a4), (.int v8)])) rfl (by rw [hml]; rfl) (Steps.refl _) (argsL := [(.int 0)]) (rest := [(.int v8)]) (lenOf own_pd1 rfl) rfl (by show 2 * 0 + _ ≤ _; exact Nat.le_of_eq rfl) (hb hby at_127) (fun _ _ => ⟨rfl, e101, (by decide : 5 + 0 ≤ _), (by decide : 74 + 0 ≤ _)⟩)
    dsimp only [own_R, Pt.U, Pt.locs, Pt.cells, Pt.slots] at X112 l112 y112 z112 st112 hQ112
    subst y112 z112
    obtain ⟨hv112, hL112, hh112⟩ := hQ112
    subst hL112
    have N112 : Fr n0 L112 := by rw [l112]; exact Fr.app N101 (Fr.nil n0)
    subst hv112
    refine own_to ?_ (fun t k => st112.trans k)
    exact own_sglcP l Z a0 hw hst p0 p1 p2 dv pd h0 n0 a4 ua v7 v8 (0 : Int32) (80 : Int32) oo101 ou101 hx hby hret hlk hml hnm hS0 hh hZ hown (X112.wide (L' := _) (cells' := 11) (slots' := 190) (fun x hx _ => hx) (by decide) (by decide)) hh112 (Nat.le_trans hk0 K101.1) Ch101 N112 Xo101 KK101 hR F114 g101_0 (Or.inl ⟨rfl, rfl⟩)
  · skip
    subst hcv103_1
    refine own_to (V := T101.setTop (mkF m 127 #[sI p0, sI p1, sI p2, sI 1, sR a4, sR pd, sI 10, sI v7, sI v8, sI 1, sR oo101, .unset, .unset] [(.int 1), (.ref a4), (.int v8)])) ?_ fun t k => (by
      refine XS.iload X101.here hx rfl (hb hby at_121) rfl ?_
      refine XS.aload X101.here hx rfl (hb hby at_123) rfl rfl ?_
      refine XS.iload X101.here hx rfl (hb hby at_125) rfl ?_
      exact k)
    have F117 := (hS.keep K101 List.not_mem_nil List.not_mem_nil)
    obtain ⟨sN116, sk116, sv116, sE116, sV116, sC116, sK116, sc116, sb116, sl116⟩ := own_Str.latin F117 (own_lat2 (own_allS (by decide) (own_allS (by decide) (own_allS (by decide) (own_allS (by decide) (own_allS (by decide) (own_allS (by decide) (own_allS (by decide) (own_allS (by decide) (own_allS (by decide) (own_allS (by decide) own_all0)))))))))))
    obtain ⟨cq115, kq115, q115a, q115b, q115c⟩ := isOf hZ e101 F117.1
    obtain ⟨_, _, ⟨T115, L115, k115, n115⟩, -, X115, ⟨Lc115, hQ115, l115, y115, z115⟩, st115⟩ := X101.virtualBack hx (y := own_mn2) (z := own_mn2) hown (mvT hZ (own_i hw 33 rfl)) (mvT hZ (own_i hw 34 rfl)) (notFace_of_selects (args := #[]) (mvT hZ (own_i hw 36 rfl))) (mvT hZ (own_i hw 36 rfl)) (mvT hZ (own_i hw 35 rfl)) (by decide) (StrChars.Road.chN (W := 1) hZ (own_hch hw) (kI := 4) (own_i hw 2 rfl) sE116 sV116 sC116 sK116 sc116 sb116 (O2.ext Xo101.2) P5 (O4.ext Xo101.2) rG3 sl116 (i := 1) (Nat.le_of_ble_eq_true rfl) (j := (1 : Int32)) rfl (by decide) (by decide)) q115a q115c (g := (mkF m 127 #[sI p0, sI p1, sI p2, sI 1, sR a4, sR pd, sI 10, sI v7, sI v8, sI 1, sR oo101, .unset, .unset] [(.int 1), (.ref a4), (.int v8)])) rfl (by rw [hml]; rfl) (Steps.refl _) (argsL := [(.int 1)]) (rest := [(.int v8)]) (lenOf own_pd1 rfl) rfl (by show 2 * 0 + _ ≤ _; exact Nat.le_of_eq rfl) (hb hby at_127) (fun _ _ => ⟨rfl, e101, (by decide : 5 + 0 ≤ _), (by decide : 74 + 0 ≤ _)⟩)
    dsimp only [own_R, Pt.U, Pt.locs, Pt.cells, Pt.slots] at X115 l115 y115 z115 st115 hQ115
    subst y115 z115
    obtain ⟨hv115, hL115, hh115⟩ := hQ115
    subst hL115
    have N115 : Fr n0 L115 := by rw [l115]; exact Fr.app N101 (Fr.nil n0)
    subst hv115
    refine own_to ?_ (fun t k => st115.trans k)
    exact own_sglcP l Z a0 hw hst p0 p1 p2 dv pd h0 n0 a4 ua v7 v8 (1 : Int32) (114 : Int32) oo101 ou101 hx hby hret hlk hml hnm hS0 hh hZ hown (X115.wide (L' := _) (cells' := 11) (slots' := 190) (fun x hx _ => hx) (by decide) (by decide)) hh115 (Nat.le_trans hk0 K101.1) Ch101 N115 Xo101 KK101 hR F117 g101_0 (Or.inr (Or.inl ⟨rfl, rfl⟩))
  · skip
    subst hcv104_2
    refine own_to (V := T101.setTop (mkF m 127 #[sI p0, sI p1, sI p2, sI 1, sR a4, sR pd, sI 10, sI v7, sI v8, sI 2, sR oo101, .unset, .unset] [(.int 2), (.ref a4), (.int v8)])) ?_ fun t k => (by
      refine XS.iload X101.here hx rfl (hb hby at_121) rfl ?_
      refine XS.aload X101.here hx rfl (hb hby at_123) rfl rfl ?_
      refine XS.iload X101.here hx rfl (hb hby at_125) rfl ?_
      exact k)
    have F120 := (hS.keep K101 List.not_mem_nil List.not_mem_nil)
    obtain ⟨sN119, sk119, sv119, sE119, sV119, sC119, sK119, sc119, sb119, sl119⟩ := own_Str.latin F120 (own_lat2 (own_allS (by decide) (own_allS (by decide) (own_allS (by decide) (own_allS (by decide) (own_allS (by decide) (own_allS (by decide) (own_allS (by decide) (own_allS (by decide) (own_allS (by decide) (own_allS (by decide) own_all0)))))))))))
    obtain ⟨cq118, kq118, q118a, q118b, q118c⟩ := isOf hZ e101 F120.1
    obtain ⟨_, _, ⟨T118, L118, k118, n118⟩, -, X118, ⟨Lc118, hQ118, l118, y118, z118⟩, st118⟩ := X101.virtualBack hx (y := own_mn2) (z := own_mn2) hown (mvT hZ (own_i hw 33 rfl)) (mvT hZ (own_i hw 34 rfl)) (notFace_of_selects (args := #[]) (mvT hZ (own_i hw 36 rfl))) (mvT hZ (own_i hw 36 rfl)) (mvT hZ (own_i hw 35 rfl)) (by decide) (StrChars.Road.chN (W := 1) hZ (own_hch hw) (kI := 4) (own_i hw 2 rfl) sE119 sV119 sC119 sK119 sc119 sb119 (O2.ext Xo101.2) P5 (O4.ext Xo101.2) rG3 sl119 (i := 2) (Nat.le_of_ble_eq_true rfl) (j := (2 : Int32)) rfl (by decide) (by decide)) q118a q118c (g := (mkF m 127 #[sI p0, sI p1, sI p2, sI 1, sR a4, sR pd, sI 10, sI v7, sI v8, sI 2, sR oo101, .unset, .unset] [(.int 2), (.ref a4), (.int v8)])) rfl (by rw [hml]; rfl) (Steps.refl _) (argsL := [(.int 2)]) (rest := [(.int v8)]) (lenOf own_pd1 rfl) rfl (by show 2 * 0 + _ ≤ _; exact Nat.le_of_eq rfl) (hb hby at_127) (fun _ _ => ⟨rfl, e101, (by decide : 5 + 0 ≤ _), (by decide : 74 + 0 ≤ _)⟩)
    dsimp only [own_R, Pt.U, Pt.locs, Pt.cells, Pt.slots] at X118 l118 y118 z118 st118 hQ118
    subst y118 z118
    obtain ⟨hv118, hL118, hh118⟩ := hQ118
    subst hL118
    have N118 : Fr n0 L118 := by rw [l118]; exact Fr.app N101 (Fr.nil n0)
    subst hv118
    refine own_to ?_ (fun t k => st118.trans k)
    exact own_sglcP l Z a0 hw hst p0 p1 p2 dv pd h0 n0 a4 ua v7 v8 (2 : Int32) (111 : Int32) oo101 ou101 hx hby hret hlk hml hnm hS0 hh hZ hown (X118.wide (L' := _) (cells' := 11) (slots' := 190) (fun x hx _ => hx) (by decide) (by decide)) hh118 (Nat.le_trans hk0 K101.1) Ch101 N118 Xo101 KK101 hR F120 g101_0 (Or.inr (Or.inr (Or.inl ⟨rfl, rfl⟩)))
  · skip
    subst hcv105_3
    refine own_to (V := T101.setTop (mkF m 127 #[sI p0, sI p1, sI p2, sI 1, sR a4, sR pd, sI 10, sI v7, sI v8, sI 3, sR oo101, .unset, .unset] [(.int 3), (.ref a4), (.int v8)])) ?_ fun t k => (by
      refine XS.iload X101.here hx rfl (hb hby at_121) rfl ?_
      refine XS.aload X101.here hx rfl (hb hby at_123) rfl rfl ?_
      refine XS.iload X101.here hx rfl (hb hby at_125) rfl ?_
      exact k)
    have F123 := (hS.keep K101 List.not_mem_nil List.not_mem_nil)
    obtain ⟨sN122, sk122, sv122, sE122, sV122, sC122, sK122, sc122, sb122, sl122⟩ := own_Str.latin F123 (own_lat2 (own_allS (by decide) (own_allS (by decide) (own_allS (by decide) (own_allS (by decide) (own_allS (by decide) (own_allS (by decide) (own_allS (by decide) (own_allS (by decide) (own_allS (by decide) (own_allS (by decide) own_all0)))))))))))
    obtain ⟨cq121, kq121, q121a, q121b, q121c⟩ := isOf hZ e101 F123.1
    obtain ⟨_, _, ⟨T121, L121, k121, n121⟩, -, X121, ⟨Lc121, hQ121, l121, y121, z121⟩, st121⟩ := X101.virtualBack hx (y := own_mn2) (z := own_mn2) hown (mvT hZ (own_i hw 33 rfl)) (mvT hZ (own_i hw 34 rfl)) (notFace_of_selects (args := #[]) (mvT hZ (own_i hw 36 rfl))) (mvT hZ (own_i hw 36 rfl)) (mvT hZ (own_i hw 35 rfl)) (by decide) (StrChars.Road.chN (W := 1) hZ (own_hch hw) (kI := 4) (own_i hw 2 rfl) sE122 sV122 sC122 sK122 sc122 sb122 (O2.ext Xo101.2) P5 (O4.ext Xo101.2) rG3 sl122 (i := 3) (Nat.le_of_ble_eq_true rfl) (j := (3 : Int32)) rfl (by decide) (by decide)) q121a q121c (g := (mkF m 127 #[sI p0, sI p1, sI p2, sI 1, sR a4, sR pd, sI 10, sI v7, sI v8, sI 3, sR oo101, .unset, .unset] [(.int 3), (.ref a4), (.int v8)])) rfl (by rw [hml]; rfl) (Steps.refl _) (argsL := [(.int 3)]) (rest := [(.int v8)]) (lenOf own_pd1 rfl) rfl (by show 2 * 0 + _ ≤ _; exact Nat.le_of_eq rfl) (hb hby at_127) (fun _ _ => ⟨rfl, e101, (by decide : 5 + 0 ≤ _), (by decide : 74 + 0 ≤ _)⟩)
    dsimp only [own_R, Pt.U, Pt.locs, Pt.cells, Pt.slots] at X121 l121 y121 z121 st121 hQ121
    subst y121 z121
    obtain ⟨hv121, hL121, hh121⟩ := hQ121
    subst hL121
    have N121 : Fr n0 L121 := by rw [l121]; exact Fr.app N101 (Fr.nil n0)
    subst hv121
    refine own_to ?_ (fun t k => st121.trans k)
    exact own_sglcP l Z a0 hw hst p0 p1 p2 dv pd h0 n0 a4 ua v7 v8 (3 : Int32) (100 : Int32) oo101 ou101 hx hby hret hlk hml hnm hS0 hh hZ hown (X121.wide (L' := _) (cells' := 11) (slots' := 190) (fun x hx _ => hx) (by decide) (by decide)) hh121 (Nat.le_trans hk0 K101.1) Ch101 N121 Xo101 KK101 hR F123 g101_0 (Or.inr (Or.inr (Or.inr (Or.inl ⟨rfl, rfl⟩))))
  · skip
    subst hcv106_4
    refine own_to (V := T101.setTop (mkF m 127 #[sI p0, sI p1, sI p2, sI 1, sR a4, sR pd, sI 10, sI v7, sI v8, sI 4, sR oo101, .unset, .unset] [(.int 4), (.ref a4), (.int v8)])) ?_ fun t k => (by
      refine XS.iload X101.here hx rfl (hb hby at_121) rfl ?_
      refine XS.aload X101.here hx rfl (hb hby at_123) rfl rfl ?_
      refine XS.iload X101.here hx rfl (hb hby at_125) rfl ?_
      exact k)
    have F126 := (hS.keep K101 List.not_mem_nil List.not_mem_nil)
    obtain ⟨sN125, sk125, sv125, sE125, sV125, sC125, sK125, sc125, sb125, sl125⟩ := own_Str.latin F126 (own_lat2 (own_allS (by decide) (own_allS (by decide) (own_allS (by decide) (own_allS (by decide) (own_allS (by decide) (own_allS (by decide) (own_allS (by decide) (own_allS (by decide) (own_allS (by decide) (own_allS (by decide) own_all0)))))))))))
    obtain ⟨cq124, kq124, q124a, q124b, q124c⟩ := isOf hZ e101 F126.1
    obtain ⟨_, _, ⟨T124, L124, k124, n124⟩, -, X124, ⟨Lc124, hQ124, l124, y124, z124⟩, st124⟩ := X101.virtualBack hx (y := own_mn2) (z := own_mn2) hown (mvT hZ (own_i hw 33 rfl)) (mvT hZ (own_i hw 34 rfl)) (notFace_of_selects (args := #[]) (mvT hZ (own_i hw 36 rfl))) (mvT hZ (own_i hw 36 rfl)) (mvT hZ (own_i hw 35 rfl)) (by decide) (StrChars.Road.chN (W := 1) hZ (own_hch hw) (kI := 4) (own_i hw 2 rfl) sE125 sV125 sC125 sK125 sc125 sb125 (O2.ext Xo101.2) P5 (O4.ext Xo101.2) rG3 sl125 (i := 4) (Nat.le_of_ble_eq_true rfl) (j := (4 : Int32)) rfl (by decide) (by decide)) q124a q124c (g := (mkF m 127 #[sI p0, sI p1, sI p2, sI 1, sR a4, sR pd, sI 10, sI v7, sI v8, sI 4, sR oo101, .unset, .unset] [(.int 4), (.ref a4), (.int v8)])) rfl (by rw [hml]; rfl) (Steps.refl _) (argsL := [(.int 4)]) (rest := [(.int v8)]) (lenOf own_pd1 rfl) rfl (by show 2 * 0 + _ ≤ _; exact Nat.le_of_eq rfl) (hb hby at_127) (fun _ _ => ⟨rfl, e101, (by decide : 5 + 0 ≤ _), (by decide : 74 + 0 ≤ _)⟩)
    dsimp only [own_R, Pt.U, Pt.locs, Pt.cells, Pt.slots] at X124 l124 y124 z124 st124 hQ124
    subst y124 z124
    obtain ⟨hv124, hL124, hh124⟩ := hQ124
    subst hL124
    have N124 : Fr n0 L124 := by rw [l124]; exact Fr.app N101 (Fr.nil n0)
    subst hv124
    refine own_to ?_ (fun t k => st124.trans k)
    exact own_sglcP l Z a0 hw hst p0 p1 p2 dv pd h0 n0 a4 ua v7 v8 (4 : Int32) (117 : Int32) oo101 ou101 hx hby hret hlk hml hnm hS0 hh hZ hown (X124.wide (L' := _) (cells' := 11) (slots' := 190) (fun x hx _ => hx) (by decide) (by decide)) hh124 (Nat.le_trans hk0 K101.1) Ch101 N124 Xo101 KK101 hR F126 g101_0 (Or.inr (Or.inr (Or.inr (Or.inr (Or.inl ⟨rfl, rfl⟩)))))
  · skip
    subst hcv107_5
    refine own_to (V := T101.setTop (mkF m 127 #[sI p0, sI p1, sI p2, sI 1, sR a4, sR pd, sI 10, sI v7, sI v8, sI 5, sR oo101, .unset, .unset] [(.int 5), (.ref a4), (.int v8)])) ?_ fun t k => (by
      refine XS.iload X101.here hx rfl (hb hby at_121) rfl ?_
      refine XS.aload X101.here hx rfl (hb hby at_123) rfl rfl ?_
      refine XS.iload X101.here hx rfl (hb hby at_125) rfl ?_
      exact k)
    have F129 := (hS.keep K101 List.not_mem_nil List.not_mem_nil)
    obtain ⟨sN128, sk128, sv128, sE128, sV128, sC128, sK128, sc128, sb128, sl128⟩ := own_Str.latin F129 (own_lat2 (own_allS (by decide) (own_allS (by decide) (own_allS (by decide) (own_allS (by decide) (own_allS (by decide) (own_allS (by decide) (own_allS (by decide) (own_allS (by decide) (own_allS (by decide) (own_allS (by decide) own_all0)))))))))))
    obtain ⟨cq127, kq127, q127a, q127b, q127c⟩ := isOf hZ e101 F129.1
    obtain ⟨_, _, ⟨T127, L127, k127, n127⟩, -, X127, ⟨Lc127, hQ127, l127, y127, z127⟩, st127⟩ := X101.virtualBack hx (y := own_mn2) (z := own_mn2) hown (mvT hZ (own_i hw 33 rfl)) (mvT hZ (own_i hw 34 rfl)) (notFace_of_selects (args := #[]) (mvT hZ (own_i hw 36 rfl))) (mvT hZ (own_i hw 36 rfl)) (mvT hZ (own_i hw 35 rfl)) (by decide) (StrChars.Road.chN (W := 1) hZ (own_hch hw) (kI := 4) (own_i hw 2 rfl) sE128 sV128 sC128 sK128 sc128 sb128 (O2.ext Xo101.2) P5 (O4.ext Xo101.2) rG3 sl128 (i := 5) (Nat.le_of_ble_eq_true rfl) (j := (5 : Int32)) rfl (by decide) (by decide)) q127a q127c (g := (mkF m 127 #[sI p0, sI p1, sI p2, sI 1, sR a4, sR pd, sI 10, sI v7, sI v8, sI 5, sR oo101, .unset, .unset] [(.int 5), (.ref a4), (.int v8)])) rfl (by rw [hml]; rfl) (Steps.refl _) (argsL := [(.int 5)]) (rest := [(.int v8)]) (lenOf own_pd1 rfl) rfl (by show 2 * 0 + _ ≤ _; exact Nat.le_of_eq rfl) (hb hby at_127) (fun _ _ => ⟨rfl, e101, (by decide : 5 + 0 ≤ _), (by decide : 74 + 0 ≤ _)⟩)
    dsimp only [own_R, Pt.U, Pt.locs, Pt.cells, Pt.slots] at X127 l127 y127 z127 st127 hQ127
    subst y127 z127
    obtain ⟨hv127, hL127, hh127⟩ := hQ127
    subst hL127
    have N127 : Fr n0 L127 := by rw [l127]; exact Fr.app N101 (Fr.nil n0)
    subst hv127
    refine own_to ?_ (fun t k => st127.trans k)
    exact own_sglcP l Z a0 hw hst p0 p1 p2 dv pd h0 n0 a4 ua v7 v8 (5 : Int32) (99 : Int32) oo101 ou101 hx hby hret hlk hml hnm hS0 hh hZ hown (X127.wide (L' := _) (cells' := 11) (slots' := 190) (fun x hx _ => hx) (by decide) (by decide)) hh127 (Nat.le_trans hk0 K101.1) Ch101 N127 Xo101 KK101 hR F129 g101_0 (Or.inr (Or.inr (Or.inr (Or.inr (Or.inr (Or.inl ⟨rfl, rfl⟩))))))
  · skip
    subst hcv108_6
    refine own_to (V := T101.setTop (mkF m 127 #[sI p0, sI p1, sI p2, sI 1, sR a4, sR pd, sI 10, sI v7, sI v8, sI 6, sR oo101, .unset, .unset] [(.int 6), (.ref a4), (.int v8)])) ?_ fun t k => (by
      refine XS.iload X101.here hx rfl (hb hby at_121) rfl ?_
      refine XS.aload X101.here hx rfl (hb hby at_123) rfl rfl ?_
      refine XS.iload X101.here hx rfl (hb hby at_125) rfl ?_
      exact k)
    have F132 := (hS.keep K101 List.not_mem_nil List.not_mem_nil)
    obtain ⟨sN131, sk131, sv131, sE131, sV131, sC131, sK131, sc131, sb131, sl131⟩ := own_Str.latin F132 (own_lat2 (own_allS (by decide) (own_allS (by decide) (own_allS (by decide) (own_allS (by decide) (own_allS (by decide) (own_allS (by decide) (own_allS (by decide) (own_allS (by decide) (own_allS (by decide) (own_allS (by decide) own_all0)))))))))))
    obtain ⟨cq130, kq130, q130a, q130b, q130c⟩ := isOf hZ e101 F132.1
    obtain ⟨_, _, ⟨T130, L130, k130, n130⟩, -, X130, ⟨Lc130, hQ130, l130, y130, z130⟩, st130⟩ := X101.virtualBack hx (y := own_mn2) (z := own_mn2) hown (mvT hZ (own_i hw 33 rfl)) (mvT hZ (own_i hw 34 rfl)) (notFace_of_selects (args := #[]) (mvT hZ (own_i hw 36 rfl))) (mvT hZ (own_i hw 36 rfl)) (mvT hZ (own_i hw 35 rfl)) (by decide) (StrChars.Road.chN (W := 1) hZ (own_hch hw) (kI := 4) (own_i hw 2 rfl) sE131 sV131 sC131 sK131 sc131 sb131 (O2.ext Xo101.2) P5 (O4.ext Xo101.2) rG3 sl131 (i := 6) (Nat.le_of_ble_eq_true rfl) (j := (6 : Int32)) rfl (by decide) (by decide)) q130a q130c (g := (mkF m 127 #[sI p0, sI p1, sI p2, sI 1, sR a4, sR pd, sI 10, sI v7, sI v8, sI 6, sR oo101, .unset, .unset] [(.int 6), (.ref a4), (.int v8)])) rfl (by rw [hml]; rfl) (Steps.refl _) (argsL := [(.int 6)]) (rest := [(.int v8)]) (lenOf own_pd1 rfl) rfl (by show 2 * 0 + _ ≤ _; exact Nat.le_of_eq rfl) (hb hby at_127) (fun _ _ => ⟨rfl, e101, (by decide : 5 + 0 ≤ _), (by decide : 74 + 0 ≤ _)⟩)
    dsimp only [own_R, Pt.U, Pt.locs, Pt.cells, Pt.slots] at X130 l130 y130 z130 st130 hQ130
    subst y130 z130
    obtain ⟨hv130, hL130, hh130⟩ := hQ130
    subst hL130
    have N130 : Fr n0 L130 := by rw [l130]; exact Fr.app N101 (Fr.nil n0)
    subst hv130
    refine own_to ?_ (fun t k => st130.trans k)
    exact own_sglcP l Z a0 hw hst p0 p1 p2 dv pd h0 n0 a4 ua v7 v8 (6 : Int32) (116 : Int32) oo101 ou101 hx hby hret hlk hml hnm hS0 hh hZ hown (X130.wide (L' := _) (cells' := 11) (slots' := 190) (fun x hx _ => hx) (by decide) (by decide)) hh130 (Nat.le_trans hk0 K101.1) Ch101 N130 Xo101 KK101 hR F132 g101_0 (Or.inr (Or.inr (Or.inr (Or.inr (Or.inr (Or.inr (Or.inl ⟨rfl, rfl⟩)))))))
  · skip
    subst hcv109_7
    refine own_to (V := T101.setTop (mkF m 127 #[sI p0, sI p1, sI p2, sI 1, sR a4, sR pd, sI 10, sI v7, sI v8, sI 7, sR oo101, .unset, .unset] [(.int 7), (.ref a4), (.int v8)])) ?_ fun t k => (by
      refine XS.iload X101.here hx rfl (hb hby at_121) rfl ?_
      refine XS.aload X101.here hx rfl (hb hby at_123) rfl rfl ?_
      refine XS.iload X101.here hx rfl (hb hby at_125) rfl ?_
      exact k)
    have F135 := (hS.keep K101 List.not_mem_nil List.not_mem_nil)
    obtain ⟨sN134, sk134, sv134, sE134, sV134, sC134, sK134, sc134, sb134, sl134⟩ := own_Str.latin F135 (own_lat2 (own_allS (by decide) (own_allS (by decide) (own_allS (by decide) (own_allS (by decide) (own_allS (by decide) (own_allS (by decide) (own_allS (by decide) (own_allS (by decide) (own_allS (by decide) (own_allS (by decide) own_all0)))))))))))
    obtain ⟨cq133, kq133, q133a, q133b, q133c⟩ := isOf hZ e101 F135.1
    obtain ⟨_, _, ⟨T133, L133, k133, n133⟩, -, X133, ⟨Lc133, hQ133, l133, y133, z133⟩, st133⟩ := X101.virtualBack hx (y := own_mn2) (z := own_mn2) hown (mvT hZ (own_i hw 33 rfl)) (mvT hZ (own_i hw 34 rfl)) (notFace_of_selects (args := #[]) (mvT hZ (own_i hw 36 rfl))) (mvT hZ (own_i hw 36 rfl)) (mvT hZ (own_i hw 35 rfl)) (by decide) (StrChars.Road.chN (W := 1) hZ (own_hch hw) (kI := 4) (own_i hw 2 rfl) sE134 sV134 sC134 sK134 sc134 sb134 (O2.ext Xo101.2) P5 (O4.ext Xo101.2) rG3 sl134 (i := 7) (Nat.le_of_ble_eq_true rfl) (j := (7 : Int32)) rfl (by decide) (by decide)) q133a q133c (g := (mkF m 127 #[sI p0, sI p1, sI p2, sI 1, sR a4, sR pd, sI 10, sI v7, sI v8, sI 7, sR oo101, .unset, .unset] [(.int 7), (.ref a4), (.int v8)])) rfl (by rw [hml]; rfl) (Steps.refl _) (argsL := [(.int 7)]) (rest := [(.int v8)]) (lenOf own_pd1 rfl) rfl (by show 2 * 0 + _ ≤ _; exact Nat.le_of_eq rfl) (hb hby at_127) (fun _ _ => ⟨rfl, e101, (by decide : 5 + 0 ≤ _), (by decide : 74 + 0 ≤ _)⟩)
    dsimp only [own_R, Pt.U, Pt.locs, Pt.cells, Pt.slots] at X133 l133 y133 z133 st133 hQ133
    subst y133 z133
    obtain ⟨hv133, hL133, hh133⟩ := hQ133
    subst hL133
    have N133 : Fr n0 L133 := by rw [l133]; exact Fr.app N101 (Fr.nil n0)
    subst hv133
    refine own_to ?_ (fun t k => st133.trans k)
    exact own_sglcP l Z a0 hw hst p0 p1 p2 dv pd h0 n0 a4 ua v7 v8 (7 : Int32) (105 : Int32) oo101 ou101 hx hby hret hlk hml hnm hS0 hh hZ hown (X133.wide (L' := _) (cells' := 11) (slots' := 190) (fun x hx _ => hx) (by decide) (by decide)) hh133 (Nat.le_trans hk0 K101.1) Ch101 N133 Xo101 KK101 hR F135 g101_0 (Or.inr (Or.inr (Or.inr (Or.inr (Or.inr (Or.inr (Or.inr (Or.inl ⟨rfl, rfl⟩))))))))
  · skip
    subst hcv110_8
    refine own_to (V := T101.setTop (mkF m 127 #[sI p0, sI p1, sI p2, sI 1, sR a4, sR pd, sI 10, sI v7, sI v8, sI 8, sR oo101, .unset, .unset] [(.int 8), (.ref a4), (.int v8)])) ?_ fun t k => (by
      refine XS.iload X101.here hx rfl (hb hby at_121) rfl ?_
      refine XS.aload X101.here hx rfl (hb hby at_123) rfl rfl ?_
      refine XS.iload X101.here hx rfl (hb hby at_125) rfl ?_
      exact k)
    have F138 := (hS.keep K101 List.not_mem_nil List.not_mem_nil)
    obtain ⟨sN137, sk137, sv137, sE137, sV137, sC137, sK137, sc137, sb137, sl137⟩ := own_Str.latin F138 (own_lat2 (own_allS (by decide) (own_allS (by decide) (own_allS (by decide) (own_allS (by decide) (own_allS (by decide) (own_allS (by decide) (own_allS (by decide) (own_allS (by decide) (own_allS (by decide) (own_allS (by decide) own_all0)))))))))))
    obtain ⟨cq136, kq136, q136a, q136b, q136c⟩ := isOf hZ e101 F138.1
    obtain ⟨_, _, ⟨T136, L136, k136, n136⟩, -, X136, ⟨Lc136, hQ136, l136, y136, z136⟩, st136⟩ := X101.virtualBack hx (y := own_mn2) (z := own_mn2) hown (mvT hZ (own_i hw 33 rfl)) (mvT hZ (own_i hw 34 rfl)) (notFace_of_selects (args := #[]) (mvT hZ (own_i hw 36 rfl))) (mvT hZ (own_i hw 36 rfl)) (mvT hZ (own_i hw 35 rfl)) (by decide) (StrChars.Road.chN (W := 1) hZ (own_hch hw) (kI := 4) (own_i hw 2 rfl) sE137 sV137 sC137 sK137 sc137 sb137 (O2.ext Xo101.2) P5 (O4.ext Xo101.2) rG3 sl137 (i := 8) (Nat.le_of_ble_eq_true rfl) (j := (8 : Int32)) rfl (by decide) (by decide)) q136a q136c (g := (mkF m 127 #[sI p0, sI p1, sI p2, sI 1, sR a4, sR pd, sI 10, sI v7, sI v8, sI 8, sR oo101, .unset, .unset] [(.int 8), (.ref a4), (.int v8)])) rfl (by rw [hml]; rfl) (Steps.refl _) (argsL := [(.int 8)]) (rest := [(.int v8)]) (lenOf own_pd1 rfl) rfl (by show 2 * 0 + _ ≤ _; exact Nat.le_of_eq rfl) (hb hby at_127) (fun _ _ => ⟨rfl, e101, (by decide : 5 + 0 ≤ _), (by decide : 74 + 0 ≤ _)⟩)
    dsimp only [own_R, Pt.U, Pt.locs, Pt.cells, Pt.slots] at X136 l136 y136 z136 st136 hQ136
    subst y136 z136
    obtain ⟨hv136, hL136, hh136⟩ := hQ136
    subst hL136
    have N136 : Fr n0 L136 := by rw [l136]; exact Fr.app N101 (Fr.nil n0)
    subst hv136
    refine own_to ?_ (fun t k => st136.trans k)
    exact own_sglcP l Z a0 hw hst p0 p1 p2 dv pd h0 n0 a4 ua v7 v8 (8 : Int32) (111 : Int32) oo101 ou101 hx hby hret hlk hml hnm hS0 hh hZ hown (X136.wide (L' := _) (cells' := 11) (slots' := 190) (fun x hx _ => hx) (by decide) (by decide)) hh136 (Nat.le_trans hk0 K101.1) Ch101 N136 Xo101 KK101 hR F138 g101_0 (Or.inr (Or.inr (Or.inr (Or.inr (Or.inr (Or.inr (Or.inr (Or.inr (Or.inl ⟨rfl, rfl⟩)))))))))
  · skip
    subst hcv111_9
    refine own_to (V := T101.setTop (mkF m 127 #[sI p0, sI p1, sI p2, sI 1, sR a4, sR pd, sI 10, sI v7, sI v8, sI 9, sR oo101, .unset, .unset] [(.int 9), (.ref a4), (.int v8)])) ?_ fun t k => (by
      refine XS.iload X101.here hx rfl (hb hby at_121) rfl ?_
      refine XS.aload X101.here hx rfl (hb hby at_123) rfl rfl ?_
      refine XS.iload X101.here hx rfl (hb hby at_125) rfl ?_
      exact k)
    have F141 := (hS.keep K101 List.not_mem_nil List.not_mem_nil)
    obtain ⟨sN140, sk140, sv140, sE140, sV140, sC140, sK140, sc140, sb140, sl140⟩ := own_Str.latin F141 (own_lat2 (own_allS (by decide) (own_allS (by decide) (own_allS (by decide) (own_allS (by decide) (own_allS (by decide) (own_allS (by decide) (own_allS (by decide) (own_allS (by decide) (own_allS (by decide) (own_allS (by decide) own_all0)))))))))))
    obtain ⟨cq139, kq139, q139a, q139b, q139c⟩ := isOf hZ e101 F141.1
    obtain ⟨_, _, ⟨T139, L139, k139, n139⟩, -, X139, ⟨Lc139, hQ139, l139, y139, z139⟩, st139⟩ := X101.virtualBack hx (y := own_mn2) (z := own_mn2) hown (mvT hZ (own_i hw 33 rfl)) (mvT hZ (own_i hw 34 rfl)) (notFace_of_selects (args := #[]) (mvT hZ (own_i hw 36 rfl))) (mvT hZ (own_i hw 36 rfl)) (mvT hZ (own_i hw 35 rfl)) (by decide) (StrChars.Road.chN (W := 1) hZ (own_hch hw) (kI := 4) (own_i hw 2 rfl) sE140 sV140 sC140 sK140 sc140 sb140 (O2.ext Xo101.2) P5 (O4.ext Xo101.2) rG3 sl140 (i := 9) (Nat.le_of_ble_eq_true rfl) (j := (9 : Int32)) rfl (by decide) (by decide)) q139a q139c (g := (mkF m 127 #[sI p0, sI p1, sI p2, sI 1, sR a4, sR pd, sI 10, sI v7, sI v8, sI 9, sR oo101, .unset, .unset] [(.int 9), (.ref a4), (.int v8)])) rfl (by rw [hml]; rfl) (Steps.refl _) (argsL := [(.int 9)]) (rest := [(.int v8)]) (lenOf own_pd1 rfl) rfl (by show 2 * 0 + _ ≤ _; exact Nat.le_of_eq rfl) (hb hby at_127) (fun _ _ => ⟨rfl, e101, (by decide : 5 + 0 ≤ _), (by decide : 74 + 0 ≤ _)⟩)
    dsimp only [own_R, Pt.U, Pt.locs, Pt.cells, Pt.slots] at X139 l139 y139 z139 st139 hQ139
    subst y139 z139
    obtain ⟨hv139, hL139, hh139⟩ := hQ139
    subst hL139
    have N139 : Fr n0 L139 := by rw [l139]; exact Fr.app N101 (Fr.nil n0)
    subst hv139
    refine own_to ?_ (fun t k => st139.trans k)
    exact own_sglcP l Z a0 hw hst p0 p1 p2 dv pd h0 n0 a4 ua v7 v8 (9 : Int32) (110 : Int32) oo101 ou101 hx hby hret hlk hml hnm hS0 hh hZ hown (X139.wide (L' := _) (cells' := 11) (slots' := 190) (fun x hx _ => hx) (by decide) (by decide)) hh139 (Nat.le_trans hk0 K101.1) Ch101 N139 Xo101 KK101 hR F141 g101_0 (Or.inr (Or.inr (Or.inr (Or.inr (Or.inr (Or.inr (Or.inr (Or.inr (Or.inr ⟨rfl, rfl⟩)))))))))
set_option maxRecDepth 65536 in
set_option maxHeartbeats 40000000 in
theorem own_sglfP (l : Launch) (Z : State) (a0 : Array Value) (hw : ∀ d ∈ tables_1, d.before a0 Z = true) (hst : own_St Z) (p0 : Int32) (p1 : Int32) (p2 : Int32) (dv : Addr) (pd : Addr) (h0 : Heap) (n0 : Nat) (a4 : Addr) (ua : Addr) (v7 : Int32) (v8 : Int32) (v9 : Int32) (v12 : Int32)
    {p : Program} {e : Env} {s : State} {m : MethodId} {args : Array Value} {below : List Frame} {meth : Method} {c : Code} (hx : p.tables.exec = Jvm.exec) (hby : c.code = code) (hret : meth.sig.returnType = ret) (hlk : meth.locks = false) (hml : c.maxLocals = 13) (hnm : meth.name = "law") {vm0 : Vm} {k0 : Nat} (hS0 : s.Since vm0 k0) (hh : s.heap = h0) (hZ : Z.Warmed39 (s.setVm vm0).vm) (hown : (s.setVm vm0).vm.findClass "com/example/tallowlark/tallowlark/server/StageFromArgumentPinLaw" = some m.cls)
    {T0 : State} {locs : List Loc} {h : Heap} (X0 : Stand p l e room_1 (s.setVm vm0) m args below meth c T0 locs 2 50) (e0 : T0.heap = h) (hk0 : k0 ≤ h.size) (Ch0 : CHr Z consts_1 s.vm h0 vm0 h) (N0 : Fr n0 locs) (Xo0 : Old Z n0 h) (KK0 : Keep h0 h []) (hR : own_Stg Z dv pd) (hS : own_Str Z h a4 ua ([(80 : Int32), (114 : Int32), (111 : Int32), (100 : Int32), (117 : Int32), (99 : Int32), (116 : Int32), (105 : Int32), (111 : Int32), (110 : Int32)] : List Int32)) (hd : (v9 = (0 : Int32) ∧ v12 = (112 : Int32)) ∨ (v9 = (1 : Int32) ∧ v12 = (82 : Int32)) ∨ (v9 = (2 : Int32) ∧ v12 = (79 : Int32)) ∨ (v9 = (3 : Int32) ∧ v12 = (68 : Int32)) ∨ (v9 = (4 : Int32) ∧ v12 = (85 : Int32)) ∨ (v9 = (5 : Int32) ∧ v12 = (67 : Int32)) ∨ (v9 = (6 : Int32) ∧ v12 = (84 : Int32)) ∨ (v9 = (7 : Int32) ∧ v12 = (73 : Int32)) ∨ (v9 = (8 : Int32) ∧ v12 = (79 : Int32)) ∨ (v9 = (9 : Int32) ∧ v12 = (78 : Int32))) :
    own_Go p e below (own_PostH Z s (own_Qlaw Z p0 p1 p2 dv pd h0 n0) room_1.cells room_1.slots) (T0.setTop (mkF m 241 #[sI p0, sI p1, sI p2, sI 1, sR a4, sR pd, sI 10, sI v7, sI v8, sI v9, .unset, .unset, sI v12] [])) := by
  obtain ⟨⟨G1, O2, P5⟩, ⟨G3, O4, rG3⟩, -⟩ := id hst
  obtain ⟨oD, oP, eD, eP, va, kV, sd, ud, sp, up, oV, eV, aV, fD, fP, sD, sP⟩ := id hR
  have rb_v12 : ¬ v12 < 0 ∧ ¬ (255 : Int32) < v12 := own_frP hd
  refine own_to (V := T0.setTop (mkF m 249 #[sI p0, sI p1, sI p2, sI 1, sR a4, sR pd, sI 10, sI v7, sI v8, sI v9, .unset, .unset, sI v12] [(.int v12), (.int v9), (.int 10), (.ref a4)])) ?_ fun t k => (by
    refine XS.aload X0.here hx rfl (hb hby at_241) rfl rfl ?_
    refine XS.iload X0.here hx rfl (hb hby at_243) rfl ?_
    refine XS.iload X0.here hx rfl (hb hby at_245) rfl ?_
    refine XS.iload X0.here hx rfl (hb hby at_247) rfl ?_
    exact k)
  obtain ⟨_, _, ⟨T101, L101, k101, n101⟩, -, X101, ⟨Lc101, hQ101, l101, y101, z101⟩, st101⟩ := Jvm.LawKit.callS X0 hx (y := own_mn3) hown (mvT hZ (own_i hw 25 rfl)) (mvT hZ (own_i hw 26 rfl)) (mvT hZ (own_i hw 27 rfl)) (mvT hZ (own_i hw 28 rfl)) (by decide) (backOf (W := 0) (own_rmmkP10 l Z a0 hw hst [] a4 ua v9 v12 h n0 Xo0 hS rb_v12) hZ (own_i hw 28 rfl) (own_i hw 27 rfl) (by decide) (by decide)) (g := (mkF m 249 #[sI p0, sI p1, sI p2, sI 1, sR a4, sR pd, sI 10, sI v7, sI v8, sI v9, .unset, .unset, sI v12] [(.int v12), (.int v9), (.int 10), (.ref a4)])) rfl (by rw [hml]; rfl) (argsL := [(.ref a4), (.int 10), (.int v9), (.int v12)]) (rest := []) (lenOf own_pd7 rfl) rfl (by show 2 * 0 + _ ≤ _; exact Nat.le_of_eq rfl) (hb hby at_249) (fun _ _ => ⟨rfl, e0, (by decide : 2 + 3 ≤ _), (by decide : 50 + 24 ≤ _)⟩)
  dsimp only [own_R, Pt.U, Pt.locs, Pt.cells, Pt.slots] at X101 l101 y101 z101 st101 hQ101
  subst y101 z101
  obtain ⟨oo101, ou101, hv101, N101q, K101, g101_0⟩ := hQ101
  subst hv101
  obtain ⟨h101, e101⟩ : ∃ z, T101.heap = z := ⟨_, rfl⟩
  rw [e101] at K101 g101_0
  have Cs101 : CHr Z consts_1 vm0 h vm0 h101 := CHr.keep K101 sf0 Ch0.1
  have Ch101 := Ch0.trans Cs101
  have Xo101 := Xo0.keep K101 all0
  have KK101 := KK0.trans K101 all0
  have N101 : Fr n0 L101 := by rw [l101]; exact Fr.app N0 N101q
  refine own_to ?_ st101
  refine own_to (V := T101.setTop (mkF m 257 #[sI p0, sI p1, sI p2, sI 1, sR a4, sR pd, sI 10, sI v7, sI v8, sI v9, sR oo101, .val .null, sI v12] [])) ?_ fun t k => (by
    refine XS.astore X101.here hx rfl (hb hby at_252) rfl rfl (l' := #[sI p0, sI p1, sI p2, sI 1, sR a4, sR pd, sI 10, sI v7, sI v8, sI v9, sR oo101, .unset, sI v12]) rfl ?_
    refine XS.aconstNull X101.here hx rfl (hb hby at_254) ?_
    refine XS.astore X101.here hx rfl (hb hby at_255) rfl rfl (l' := #[sI p0, sI p1, sI p2, sI 1, sR a4, sR pd, sI 10, sI v7, sI v8, sI v9, sR oo101, .val .null, sI v12]) rfl ?_
    exact k)
  exact own_sglr l Z a0 hw hst p0 p1 p2 dv pd h0 n0 (1 : Int32) a4 pd (10 : Int32) v7 v8 v9 (sI v12) oo101 ou101 .null ([(own_at (0 : Int32) v9 v12 (80 : Int32)), (own_at (1 : Int32) v9 v12 (114 : Int32)), (own_at (2 : Int32) v9 v12 (111 : Int32)), (own_at (3 : Int32) v9 v12 (100 : Int32)), (own_at (4 : Int32) v9 v12 (117 : Int32)), (own_at (5 : Int32) v9 v12 (99 : Int32)), (own_at (6 : Int32) v9 v12 (116 : Int32)), (own_at (7 : Int32) v9 v12 (105 : Int32)), (own_at (8 : Int32) v9 v12 (111 : Int32)), (own_at (9 : Int32) v9 v12 (110 : Int32))] : List Int32) hx hby hret hlk hml hnm hS0 hh hZ hown (X101.wide (L' := _) (cells' := 12) (slots' := 200) (fun x hx _ => hx) (by decide) (by decide)) e101 (Nat.le_trans hk0 K101.1) Ch101 N101 Xo101 KK101 hR rfl g101_0 (Or.inr (Or.inr ⟨(own_lnP _ _), (own_flP hd), rfl⟩))
set_option maxRecDepth 65536 in
set_option maxHeartbeats 40000000 in
theorem own_sgleP (l : Launch) (Z : State) (a0 : Array Value) (hw : ∀ d ∈ tables_1, d.before a0 Z = true) (hst : own_St Z) (p0 : Int32) (p1 : Int32) (p2 : Int32) (dv : Addr) (pd : Addr) (h0 : Heap) (n0 : Nat) (a4 : Addr) (ua : Addr) (v7 : Int32) (v8 : Int32) (v9 : Int32)
    {p : Program} {e : Env} {s : State} {m : MethodId} {args : Array Value} {below : List Frame} {meth : Method} {c : Code} (hx : p.tables.exec = Jvm.exec) (hby : c.code = code) (hret : meth.sig.returnType = ret) (hlk : meth.locks = false) (hml : c.maxLocals = 13) (hnm : meth.name = "law") {vm0 : Vm} {k0 : Nat} (hS0 : s.Since vm0 k0) (hh : s.heap = h0) (hZ : Z.Warmed39 (s.setVm vm0).vm) (hown : (s.setVm vm0).vm.findClass "com/example/tallowlark/tallowlark/server/StageFromArgumentPinLaw" = some m.cls)
    {T0 : State} {locs : List Loc} {h : Heap} (X0 : Stand p l e room_1 (s.setVm vm0) m args below meth c T0 locs 2 50) (e0 : T0.heap = h) (hk0 : k0 ≤ h.size) (Ch0 : CHr Z consts_1 s.vm h0 vm0 h) (N0 : Fr n0 locs) (Xo0 : Old Z n0 h) (KK0 : Keep h0 h []) (hR : own_Stg Z dv pd) (hS : own_Str Z h a4 ua ([(80 : Int32), (114 : Int32), (111 : Int32), (100 : Int32), (117 : Int32), (99 : Int32), (116 : Int32), (105 : Int32), (111 : Int32), (110 : Int32)] : List Int32)) (hi : v9 = (0 : Int32) ∨ v9 = (1 : Int32) ∨ v9 = (2 : Int32) ∨ v9 = (3 : Int32) ∨ v9 = (4 : Int32) ∨ v9 = (5 : Int32) ∨ v9 = (6 : Int32) ∨ v9 = (7 : Int32) ∨ v9 = (8 : Int32) ∨ v9 = (9 : Int32)) :
    own_Go p e below (own_PostH Z s (own_Qlaw Z p0 p1 p2 dv pd h0 n0) room_1.cells room_1.slots) (T0.setTop (mkF m 228 #[sI p0, sI p1, sI p2, sI 1, sR a4, sR pd, sI 10, sI v7, sI v8, sI v9, .unset, .unset, .unset] [])) := by
  obtain ⟨⟨G1, O2, P5⟩, ⟨G3, O4, rG3⟩, -⟩ := id hst
  obtain ⟨oD, oP, eD, eP, va, kV, sd, ud, sp, up, oV, eV, aV, fD, fP, sD, sP⟩ := id hR
  rcases hi with hcv101_0 | hcv102_1 | hcv103_2 | hcv104_3 | hcv105_4 | hcv106_5 | hcv107_6 | hcv108_7 | hcv109_8 | hcv110_9
  · skip
    subst hcv101_0
    refine own_to (V := T0.setTop (mkF m 232 #[sI p0, sI p1, sI p2, sI 1, sR a4, sR pd, sI 10, sI v7, sI v8, sI 0, .unset, .unset, .unset] [(.int 0), (.ref a4)])) ?_ fun t k => (by
      refine XS.aload X0.here hx rfl (hb hby at_228) rfl rfl ?_
      refine XS.iload X0.here hx rfl (hb hby at_230) rfl ?_
      exact k)
    obtain ⟨sN112, sk112, sv112, sE112, sV112, sC112, sK112, sc112, sb112, sl112⟩ := own_Str.latin hS (own_lat2 (own_allS (by decide) (own_allS (by decide) (own_allS (by decide) (own_allS (by decide) (own_allS (by decide) (own_allS (by decide) (own_allS (by decide) (own_allS (by decide) (own_allS (by decide) (own_allS (by decide) own_all0)))))))))))
    obtain ⟨cq111, kq111, q111a, q111b, q111c⟩ := isOf hZ e0 hS.1
    obtain ⟨_, _, ⟨T111, L111, k111, n111⟩, -, X111, ⟨Lc111, hQ111, l111, y111, z111⟩, st111⟩ := X0.virtualBack hx (y := own_mn2) (z := own_mn2) hown (mvT hZ (own_i hw 33 rfl)) (mvT hZ (own_i hw 34 rfl)) (notFace_of_selects (args := #[]) (mvT hZ (own_i hw 36 rfl))) (mvT hZ (own_i hw 36 rfl)) (mvT hZ (own_i hw 35 rfl)) (by decide) (StrChars.Road.chN (W := 0) hZ (own_hch hw) (kI := 4) (own_i hw 2 rfl) sE112 sV112 sC112 sK112 sc112 sb112 (O2.ext Xo0.2) P5 (O4.ext Xo0.2) rG3 sl112 (i := 0) (Nat.le_of_ble_eq_true rfl) (j := (0 : Int32)) rfl (by decide) (by decide)) q111a q111c (g := (mkF m 232 #[sI p0, sI p1, sI p2, sI 1, sR a4, sR pd, sI 10, sI v7, sI v8, sI 0, .unset, .unset, .unset] [(.int 0), (.ref a4)])) rfl (by rw [hml]; rfl) (Steps.refl _) (argsL := [(.int 0)]) (rest := []) (lenOf own_pd1 rfl) rfl (by show 2 * 0 + _ ≤ _; exact Nat.le_of_eq rfl) (hb hby at_232) (fun _ _ => ⟨rfl, e0, (by decide : 2 + 0 ≤ _), (by decide : 50 + 0 ≤ _)⟩)
    dsimp only [own_R, Pt.U, Pt.locs, Pt.cells, Pt.slots] at X111 l111 y111 z111 st111 hQ111
    subst y111 z111
    obtain ⟨hv111, hL111, hh111⟩ := hQ111
    subst hL111
    have N111 : Fr n0 L111 := by rw [l111]; exact Fr.app N0 (Fr.nil n0)
    subst hv111
    refine own_to ?_ (fun t k => st111.trans k)
    refine own_to (V := T111.setTop (mkF m 241 #[sI p0, sI p1, sI p2, sI 1, sR a4, sR pd, sI 10, sI v7, sI v8, sI 0, .unset, .unset, sI 112] [])) ?_ fun t k => (by
      refine XS.bipush X111.here hx rfl (hb hby at_235) ?_
      refine XS.ixor X111.here hx rfl (hb hby at_237) rfl ?_
      refine XS.i2c X111.here hx rfl (hb hby at_238) rfl ?_
      refine XS.istore X111.here hx rfl (hb hby at_239) rfl (l' := #[sI p0, sI p1, sI p2, sI 1, sR a4, sR pd, sI 10, sI v7, sI v8, sI 0, .unset, .unset, sI 112]) rfl ?_
      exact k)
    exact own_sglfP l Z a0 hw hst p0 p1 p2 dv pd h0 n0 a4 ua v7 v8 (0 : Int32) (112 : Int32) hx hby hret hlk hml hnm hS0 hh hZ hown X111 hh111 hk0 Ch0 N111 Xo0 KK0 hR hS (Or.inl ⟨rfl, rfl⟩)
  · skip
    subst hcv102_1
    refine own_to (V := T0.setTop (mkF m 232 #[sI p0, sI p1, sI p2, sI 1, sR a4, sR pd, sI 10, sI v7, sI v8, sI 1, .unset, .unset, .unset] [(.int 1), (.ref a4)])) ?_ fun t k => (by
      refine XS.aload X0.here hx rfl (hb hby at_228) rfl rfl ?_
      refine XS.iload X0.here hx rfl (hb hby at_230) rfl ?_
      exact k)
    obtain ⟨sN114, sk114, sv114, sE114, sV114, sC114, sK114, sc114, sb114, sl114⟩ := own_Str.latin hS (own_lat2 (own_allS (by decide) (own_allS (by decide) (own_allS (by decide) (own_allS (by decide) (own_allS (by decide) (own_allS (by decide) (own_allS (by decide) (own_allS (by decide) (own_allS (by decide) (own_allS (by decide) own_all0)))))))))))
    obtain ⟨cq113, kq113, q113a, q113b, q113c⟩ := isOf hZ e0 hS.1
    obtain ⟨_, _, ⟨T113, L113, k113, n113⟩, -, X113, ⟨Lc113, hQ113, l113, y113, z113⟩, st113⟩ := X0.virtualBack hx (y := own_mn2) (z := own_mn2) hown (mvT hZ (own_i hw 33 rfl)) (mvT hZ (own_i hw 34 rfl)) (notFace_of_selects (args := #[]) (mvT hZ (own_i hw 36 rfl))) (mvT hZ (own_i hw 36 rfl)) (mvT hZ (own_i hw 35 rfl)) (by decide) (StrChars.Road.chN (W := 0) hZ (own_hch hw) (kI := 4) (own_i hw 2 rfl) sE114 sV114 sC114 sK114 sc114 sb114 (O2.ext Xo0.2) P5 (O4.ext Xo0.2) rG3 sl114 (i := 1) (Nat.le_of_ble_eq_true rfl) (j := (1 : Int32)) rfl (by decide) (by decide)) q113a q113c (g := (mkF m 232 #[sI p0, sI p1, sI p2, sI 1, sR a4, sR pd, sI 10, sI v7, sI v8, sI 1, .unset, .unset, .unset] [(.int 1), (.ref a4)])) rfl (by rw [hml]; rfl) (Steps.refl _) (argsL := [(.int 1)]) (rest := []) (lenOf own_pd1 rfl) rfl (by show 2 * 0 + _ ≤ _; exact Nat.le_of_eq rfl) (hb hby at_232) (fun _ _ => ⟨rfl, e0, (by decide : 2 + 0 ≤ _), (by decide : 50 + 0 ≤ _)⟩)
    dsimp only [own_R, Pt.U, Pt.locs, Pt.cells, Pt.slots] at X113 l113 y113 z113 st113 hQ113
    subst y113 z113
    obtain ⟨hv113, hL113, hh113⟩ := hQ113
    subst hL113
    have N113 : Fr n0 L113 := by rw [l113]; exact Fr.app N0 (Fr.nil n0)
    subst hv113
    refine own_to ?_ (fun t k => st113.trans k)
    refine own_to (V := T113.setTop (mkF m 241 #[sI p0, sI p1, sI p2, sI 1, sR a4, sR pd, sI 10, sI v7, sI v8, sI 1, .unset, .unset, sI 82] [])) ?_ fun t k => (by
      refine XS.bipush X113.here hx rfl (hb hby at_235) ?_
      refine XS.ixor X113.here hx rfl (hb hby at_237) rfl ?_
      refine XS.i2c X113.here hx rfl (hb hby at_238) rfl ?_
      refine XS.istore X113.here hx rfl (hb hby at_239) rfl (l' := #[sI p0, sI p1, sI p2, sI 1, sR a4, sR pd, sI 10, sI v7, sI v8, sI 1, .unset, .unset, sI 82]) rfl ?_
      exact k)
    exact own_sglfP l Z a0 hw hst p0 p1 p2 dv pd h0 n0 a4 ua v7 v8 (1 : Int32) (82 : Int32) hx hby hret hlk hml hnm hS0 hh hZ hown X113 hh113 hk0 Ch0 N113 Xo0 KK0 hR hS (Or.inr (Or.inl ⟨rfl, rfl⟩))
  · skip
    subst hcv103_2
    refine own_to (V := T0.setTop (mkF m 232 #[sI p0, sI p1, sI p2, sI 1, sR a4, sR pd, sI 10, sI v7, sI v8, sI 2, .unset, .unset, .unset] [(.int 2), (.ref a4)])) ?_ fun t k => (by
      refine XS.aload X0.here hx rfl (hb hby at_228) rfl rfl ?_
      refine XS.iload X0.here hx rfl (hb hby at_230) rfl ?_
      exact k)
    obtain ⟨sN116, sk116, sv116, sE116, sV116, sC116, sK116, sc116, sb116, sl116⟩ := own_Str.latin hS (own_lat2 (own_allS (by decide) (own_allS (by decide) (own_allS (by decide) (own_allS (by decide) (own_allS (by decide) (own_allS (by decide) (own_allS (by decide) (own_allS (by decide) (own_allS (by decide) (own_allS (by decide) own_all0)))))))))))
    obtain ⟨cq115, kq115, q115a, q115b, q115c⟩ := isOf hZ e0 hS.1
    obtain ⟨_, _, ⟨T115, L115, k115, n115⟩, -, X115, ⟨Lc115, hQ115, l115, y115, z115⟩, st115⟩ := X0.virtualBack hx (y := own_mn2) (z := own_mn2) hown (mvT hZ (own_i hw 33 rfl)) (mvT hZ (own_i hw 34 rfl)) (notFace_of_selects (args := #[]) (mvT hZ (own_i hw 36 rfl))) (mvT hZ (own_i hw 36 rfl)) (mvT hZ (own_i hw 35 rfl)) (by decide) (StrChars.Road.chN (W := 0) hZ (own_hch hw) (kI := 4) (own_i hw 2 rfl) sE116 sV116 sC116 sK116 sc116 sb116 (O2.ext Xo0.2) P5 (O4.ext Xo0.2) rG3 sl116 (i := 2) (Nat.le_of_ble_eq_true rfl) (j := (2 : Int32)) rfl (by decide) (by decide)) q115a q115c (g := (mkF m 232 #[sI p0, sI p1, sI p2, sI 1, sR a4, sR pd, sI 10, sI v7, sI v8, sI 2, .unset, .unset, .unset] [(.int 2), (.ref a4)])) rfl (by rw [hml]; rfl) (Steps.refl _) (argsL := [(.int 2)]) (rest := []) (lenOf own_pd1 rfl) rfl (by show 2 * 0 + _ ≤ _; exact Nat.le_of_eq rfl) (hb hby at_232) (fun _ _ => ⟨rfl, e0, (by decide : 2 + 0 ≤ _), (by decide : 50 + 0 ≤ _)⟩)
    dsimp only [own_R, Pt.U, Pt.locs, Pt.cells, Pt.slots] at X115 l115 y115 z115 st115 hQ115
    subst y115 z115
    obtain ⟨hv115, hL115, hh115⟩ := hQ115
    subst hL115
    have N115 : Fr n0 L115 := by rw [l115]; exact Fr.app N0 (Fr.nil n0)
    subst hv115
    refine own_to ?_ (fun t k => st115.trans k)
    refine own_to (V := T115.setTop (mkF m 241 #[sI p0, sI p1, sI p2, sI 1, sR a4, sR pd, sI 10, sI v7, sI v8, sI 2, .unset, .unset, sI 79] [])) ?_ fun t k => (by
      refine XS.bipush X115.here hx rfl (hb hby at_235) ?_
      refine XS.ixor X115.here hx rfl (hb hby at_237) rfl ?_
      refine XS.i2c X115.here hx rfl (hb hby at_238) rfl ?_
      refine XS.istore X115.here hx rfl (hb hby at_239) rfl (l' := #[sI p0, sI p1, sI p2, sI 1, sR a4, sR pd, sI 10, sI v7, sI v8, sI 2, .unset, .unset, sI 79]) rfl ?_
      exact k)
    exact own_sglfP l Z a0 hw hst p0 p1 p2 dv pd h0 n0 a4 ua v7 v8 (2 : Int32) (79 : Int32) hx hby hret hlk hml hnm hS0 hh hZ hown X115 hh115 hk0 Ch0 N115 Xo0 KK0 hR hS (Or.inr (Or.inr (Or.inl ⟨rfl, rfl⟩)))
  · skip
    subst hcv104_3
    refine own_to (V := T0.setTop (mkF m 232 #[sI p0, sI p1, sI p2, sI 1, sR a4, sR pd, sI 10, sI v7, sI v8, sI 3, .unset, .unset, .unset] [(.int 3), (.ref a4)])) ?_ fun t k => (by
      refine XS.aload X0.here hx rfl (hb hby at_228) rfl rfl ?_
      refine XS.iload X0.here hx rfl (hb hby at_230) rfl ?_
      exact k)
    obtain ⟨sN118, sk118, sv118, sE118, sV118, sC118, sK118, sc118, sb118, sl118⟩ := own_Str.latin hS (own_lat2 (own_allS (by decide) (own_allS (by decide) (own_allS (by decide) (own_allS (by decide) (own_allS (by decide) (own_allS (by decide) (own_allS (by decide) (own_allS (by decide) (own_allS (by decide) (own_allS (by decide) own_all0)))))))))))
    obtain ⟨cq117, kq117, q117a, q117b, q117c⟩ := isOf hZ e0 hS.1
    obtain ⟨_, _, ⟨T117, L117, k117, n117⟩, -, X117, ⟨Lc117, hQ117, l117, y117, z117⟩, st117⟩ := X0.virtualBack hx (y := own_mn2) (z := own_mn2) hown (mvT hZ (own_i hw 33 rfl)) (mvT hZ (own_i hw 34 rfl)) (notFace_of_selects (args := #[]) (mvT hZ (own_i hw 36 rfl))) (mvT hZ (own_i hw 36 rfl)) (mvT hZ (own_i hw 35 rfl)) (by decide) (StrChars.Road.chN (W := 0) hZ (own_hch hw) (kI := 4) (own_i hw 2 rfl) sE118 sV118 sC118 sK118 sc118 sb118 (O2.ext Xo0.2) P5 (O4.ext Xo0.2) rG3 sl118 (i := 3) (Nat.le_of_ble_eq_true rfl) (j := (3 : Int32)) rfl (by decide) (by decide)) q117a q117c (g := (mkF m 232 #[sI p0, sI p1, sI p2, sI 1, sR a4, sR pd, sI 10, sI v7, sI v8, sI 3, .unset, .unset, .unset] [(.int 3), (.ref a4)])) rfl (by rw [hml]; rfl) (Steps.refl _) (argsL := [(.int 3)]) (rest := []) (lenOf own_pd1 rfl) rfl (by show 2 * 0 + _ ≤ _; exact Nat.le_of_eq rfl) (hb hby at_232) (fun _ _ => ⟨rfl, e0, (by decide : 2 + 0 ≤ _), (by decide : 50 + 0 ≤ _)⟩)
    dsimp only [own_R, Pt.U, Pt.locs, Pt.cells, Pt.slots] at X117 l117 y117 z117 st117 hQ117
    subst y117 z117
    obtain ⟨hv117, hL117, hh117⟩ := hQ117
    subst hL117
    have N117 : Fr n0 L117 := by rw [l117]; exact Fr.app N0 (Fr.nil n0)
    subst hv117
    refine own_to ?_ (fun t k => st117.trans k)
    refine own_to (V := T117.setTop (mkF m 241 #[sI p0, sI p1, sI p2, sI 1, sR a4, sR pd, sI 10, sI v7, sI v8, sI 3, .unset, .unset, sI 68] [])) ?_ fun t k => (by
      refine XS.bipush X117.here hx rfl (hb hby at_235) ?_
      refine XS.ixor X117.here hx rfl (hb hby at_237) rfl ?_
      refine XS.i2c X117.here hx rfl (hb hby at_238) rfl ?_
      refine XS.istore X117.here hx rfl (hb hby at_239) rfl (l' := #[sI p0, sI p1, sI p2, sI 1, sR a4, sR pd, sI 10, sI v7, sI v8, sI 3, .unset, .unset, sI 68]) rfl ?_
      exact k)
    exact own_sglfP l Z a0 hw hst p0 p1 p2 dv pd h0 n0 a4 ua v7 v8 (3 : Int32) (68 : Int32) hx hby hret hlk hml hnm hS0 hh hZ hown X117 hh117 hk0 Ch0 N117 Xo0 KK0 hR hS (Or.inr (Or.inr (Or.inr (Or.inl ⟨rfl, rfl⟩))))
  · skip
    subst hcv105_4
    refine own_to (V := T0.setTop (mkF m 232 #[sI p0, sI p1, sI p2, sI 1, sR a4, sR pd, sI 10, sI v7, sI v8, sI 4, .unset, .unset, .unset] [(.int 4), (.ref a4)])) ?_ fun t k => (by
      refine XS.aload X0.here hx rfl (hb hby at_228) rfl rfl ?_
      refine XS.iload X0.here hx rfl (hb hby at_230) rfl ?_
      exact k)
    obtain ⟨sN120, sk120, sv120, sE120, sV120, sC120, sK120, sc120, sb120, sl120⟩ := own_Str.latin hS (own_lat2 (own_allS (by decide) (own_allS (by decide) (own_allS (by decide) (own_allS (by decide) (own_allS (by decide) (own_allS (by decide) (own_allS (by decide) (own_allS (by decide) (own_allS (by decide) (own_allS (by decide) own_all0)))))))))))
    obtain ⟨cq119, kq119, q119a, q119b, q119c⟩ := isOf hZ e0 hS.1
    obtain ⟨_, _, ⟨T119, L119, k119, n119⟩, -, X119, ⟨Lc119, hQ119, l119, y119, z119⟩, st119⟩ := X0.virtualBack hx (y := own_mn2) (z := own_mn2) hown (mvT hZ (own_i hw 33 rfl)) (mvT hZ (own_i hw 34 rfl)) (notFace_of_selects (args := #[]) (mvT hZ (own_i hw 36 rfl))) (mvT hZ (own_i hw 36 rfl)) (mvT hZ (own_i hw 35 rfl)) (by decide) (StrChars.Road.chN (W := 0) hZ (own_hch hw) (kI := 4) (own_i hw 2 rfl) sE120 sV120 sC120 sK120 sc120 sb120 (O2.ext Xo0.2) P5 (O4.ext Xo0.2) rG3 sl120 (i := 4) (Nat.le_of_ble_eq_true rfl) (j := (4 : Int32)) rfl (by decide) (by decide)) q119a q119c (g := (mkF m 232 #[sI p0, sI p1, sI p2, sI 1, sR a4, sR pd, sI 10, sI v7, sI v8, sI 4, .unset, .unset, .unset] [(.int 4), (.ref a4)])) rfl (by rw [hml]; rfl) (Steps.refl _) (argsL := [(.int 4)]) (rest := []) (lenOf own_pd1 rfl) rfl (by show 2 * 0 + _ ≤ _; exact Nat.le_of_eq rfl) (hb hby at_232) (fun _ _ => ⟨rfl, e0, (by decide : 2 + 0 ≤ _), (by decide : 50 + 0 ≤ _)⟩)
    dsimp only [own_R, Pt.U, Pt.locs, Pt.cells, Pt.slots] at X119 l119 y119 z119 st119 hQ119
    subst y119 z119
    obtain ⟨hv119, hL119, hh119⟩ := hQ119
    subst hL119
    have N119 : Fr n0 L119 := by rw [l119]; exact Fr.app N0 (Fr.nil n0)
    subst hv119
    refine own_to ?_ (fun t k => st119.trans k)
    refine own_to (V := T119.setTop (mkF m 241 #[sI p0, sI p1, sI p2, sI 1, sR a4, sR pd, sI 10, sI v7, sI v8, sI 4, .unset, .unset, sI 85] [])) ?_ fun t k => (by
      refine XS.bipush X119.here hx rfl (hb hby at_235) ?_
      refine XS.ixor X119.here hx rfl (hb hby at_237) rfl ?_
      refine XS.i2c X119.here hx rfl (hb hby at_238) rfl ?_
      refine XS.istore X119.here hx rfl (hb hby at_239) rfl (l' := #[sI p0, sI p1, sI p2, sI 1, sR a4, sR pd, sI 10, sI v7, sI v8, sI 4, .unset, .unset, sI 85]) rfl ?_
      exact k)
    exact own_sglfP l Z a0 hw hst p0 p1 p2 dv pd h0 n0 a4 ua v7 v8 (4 : Int32) (85 : Int32) hx hby hret hlk hml hnm hS0 hh hZ hown X119 hh119 hk0 Ch0 N119 Xo0 KK0 hR hS (Or.inr (Or.inr (Or.inr (Or.inr (Or.inl ⟨rfl, rfl⟩)))))
  · skip
    subst hcv106_5
    refine own_to (V := T0.setTop (mkF m 232 #[sI p0, sI p1, sI p2, sI 1, sR a4, sR pd, sI 10, sI v7, sI v8, sI 5, .unset, .unset, .unset] [(.int 5), (.ref a4)])) ?_ fun t k => (by
      refine XS.aload X0.here hx rfl (hb hby at_228) rfl rfl ?_
      refine XS.iload X0.here hx rfl (hb hby at_230) rfl ?_
      exact k)
    obtain ⟨sN122, sk122, sv122, sE122, sV122, sC122, sK122, sc122, sb122, sl122⟩ := own_Str.latin hS (own_lat2 (own_allS (by decide) (own_allS (by decide) (own_allS (by decide) (own_allS (by decide) (own_allS (by decide) (own_allS (by decide) (own_allS (by decide) (own_allS (by decide) (own_allS (by decide) (own_allS (by decide) own_all0)))))))))))
    obtain ⟨cq121, kq121, q121a, q121b, q121c⟩ := isOf hZ e0 hS.1
    obtain ⟨_, _, ⟨T121, L121, k121, n121⟩, -, X121, ⟨Lc121, hQ121, l121, y121, z121⟩, st121⟩ := X0.virtualBack hx (y := own_mn2) (z := own_mn2) hown (mvT hZ (own_i hw 33 rfl)) (mvT hZ (own_i hw 34 rfl)) (notFace_of_selects (args := #[]) (mvT hZ (own_i hw 36 rfl))) (mvT hZ (own_i hw 36 rfl)) (mvT hZ (own_i hw 35 rfl)) (by decide) (StrChars.Road.chN (W := 0) hZ (own_hch hw) (kI := 4) (own_i hw 2 rfl) sE122 sV122 sC122 sK122 sc122 sb122 (O2.ext Xo0.2) P5 (O4.ext Xo0.2) rG3 sl122 (i := 5) (Nat.le_of_ble_eq_true rfl) (j := (5 : Int32)) rfl (by decide) (by decide)) q121a q121c (g := (mkF m 232 #[sI p0, sI p1, sI p2, sI 1, sR a4, sR pd, sI 10, sI v7, sI v8, sI 5, .unset, .unset, .unset] [(.int 5), (.ref a4)])) rfl (by rw [hml]; rfl) (Steps.refl _) (argsL := [(.int 5)]) (rest := []) (lenOf own_pd1 rfl) rfl (by show 2 * 0 + _ ≤ _; exact Nat.le_of_eq rfl) (hb hby at_232) (fun _ _ => ⟨rfl, e0, (by decide : 2 + 0 ≤ _), (by decide : 50 + 0 ≤ _)⟩)
    dsimp only [own_R, Pt.U, Pt.locs, Pt.cells, Pt.slots] at X121 l121 y121 z121 st121 hQ121
    subst y121 z121
    obtain ⟨hv121, hL121, hh121⟩ := hQ121
    subst hL121
    have N121 : Fr n0 L121 := by rw [l121]; exact Fr.app N0 (Fr.nil n0)
    subst hv121
    refine own_to ?_ (fun t k => st121.trans k)
    refine own_to (V := T121.setTop (mkF m 241 #[sI p0, sI p1, sI p2, sI 1, sR a4, sR pd, sI 10, sI v7, sI v8, sI 5, .unset, .unset, sI 67] [])) ?_ fun t k => (by
      refine XS.bipush X121.here hx rfl (hb hby at_235) ?_
      refine XS.ixor X121.here hx rfl (hb hby at_237) rfl ?_
      refine XS.i2c X121.here hx rfl (hb hby at_238) rfl ?_
      refine XS.istore X121.here hx rfl (hb hby at_239) rfl (l' := #[sI p0, sI p1, sI p2, sI 1, sR a4, sR pd, sI 10, sI v7, sI v8, sI 5, .unset, .unset, sI 67]) rfl ?_
      exact k)
    exact own_sglfP l Z a0 hw hst p0 p1 p2 dv pd h0 n0 a4 ua v7 v8 (5 : Int32) (67 : Int32) hx hby hret hlk hml hnm hS0 hh hZ hown X121 hh121 hk0 Ch0 N121 Xo0 KK0 hR hS (Or.inr (Or.inr (Or.inr (Or.inr (Or.inr (Or.inl ⟨rfl, rfl⟩))))))
  · skip
    subst hcv107_6
    refine own_to (V := T0.setTop (mkF m 232 #[sI p0, sI p1, sI p2, sI 1, sR a4, sR pd, sI 10, sI v7, sI v8, sI 6, .unset, .unset, .unset] [(.int 6), (.ref a4)])) ?_ fun t k => (by
      refine XS.aload X0.here hx rfl (hb hby at_228) rfl rfl ?_
      refine XS.iload X0.here hx rfl (hb hby at_230) rfl ?_
      exact k)
    obtain ⟨sN124, sk124, sv124, sE124, sV124, sC124, sK124, sc124, sb124, sl124⟩ := own_Str.latin hS (own_lat2 (own_allS (by decide) (own_allS (by decide) (own_allS (by decide) (own_allS (by decide) (own_allS (by decide) (own_allS (by decide) (own_allS (by decide) (own_allS (by decide) (own_allS (by decide) (own_allS (by decide) own_all0)))))))))))
    obtain ⟨cq123, kq123, q123a, q123b, q123c⟩ := isOf hZ e0 hS.1
    obtain ⟨_, _, ⟨T123, L123, k123, n123⟩, -, X123, ⟨Lc123, hQ123, l123, y123, z123⟩, st123⟩ := X0.virtualBack hx (y := own_mn2) (z := own_mn2) hown (mvT hZ (own_i hw 33 rfl)) (mvT hZ (own_i hw 34 rfl)) (notFace_of_selects (args := #[]) (mvT hZ (own_i hw 36 rfl))) (mvT hZ (own_i hw 36 rfl)) (mvT hZ (own_i hw 35 rfl)) (by decide) (StrChars.Road.chN (W := 0) hZ (own_hch hw) (kI := 4) (own_i hw 2 rfl) sE124 sV124 sC124 sK124 sc124 sb124 (O2.ext Xo0.2) P5 (O4.ext Xo0.2) rG3 sl124 (i := 6) (Nat.le_of_ble_eq_true rfl) (j := (6 : Int32)) rfl (by decide) (by decide)) q123a q123c (g := (mkF m 232 #[sI p0, sI p1, sI p2, sI 1, sR a4, sR pd, sI 10, sI v7, sI v8, sI 6, .unset, .unset, .unset] [(.int 6), (.ref a4)])) rfl (by rw [hml]; rfl) (Steps.refl _) (argsL := [(.int 6)]) (rest := []) (lenOf own_pd1 rfl) rfl (by show 2 * 0 + _ ≤ _; exact Nat.le_of_eq rfl) (hb hby at_232) (fun _ _ => ⟨rfl, e0, (by decide : 2 + 0 ≤ _), (by decide : 50 + 0 ≤ _)⟩)
    dsimp only [own_R, Pt.U, Pt.locs, Pt.cells, Pt.slots] at X123 l123 y123 z123 st123 hQ123
    subst y123 z123
    obtain ⟨hv123, hL123, hh123⟩ := hQ123
    subst hL123
    have N123 : Fr n0 L123 := by rw [l123]; exact Fr.app N0 (Fr.nil n0)
    subst hv123
    refine own_to ?_ (fun t k => st123.trans k)
    refine own_to (V := T123.setTop (mkF m 241 #[sI p0, sI p1, sI p2, sI 1, sR a4, sR pd, sI 10, sI v7, sI v8, sI 6, .unset, .unset, sI 84] [])) ?_ fun t k => (by
      refine XS.bipush X123.here hx rfl (hb hby at_235) ?_
      refine XS.ixor X123.here hx rfl (hb hby at_237) rfl ?_
      refine XS.i2c X123.here hx rfl (hb hby at_238) rfl ?_
      refine XS.istore X123.here hx rfl (hb hby at_239) rfl (l' := #[sI p0, sI p1, sI p2, sI 1, sR a4, sR pd, sI 10, sI v7, sI v8, sI 6, .unset, .unset, sI 84]) rfl ?_
      exact k)
    exact own_sglfP l Z a0 hw hst p0 p1 p2 dv pd h0 n0 a4 ua v7 v8 (6 : Int32) (84 : Int32) hx hby hret hlk hml hnm hS0 hh hZ hown X123 hh123 hk0 Ch0 N123 Xo0 KK0 hR hS (Or.inr (Or.inr (Or.inr (Or.inr (Or.inr (Or.inr (Or.inl ⟨rfl, rfl⟩)))))))
  · skip
    subst hcv108_7
    refine own_to (V := T0.setTop (mkF m 232 #[sI p0, sI p1, sI p2, sI 1, sR a4, sR pd, sI 10, sI v7, sI v8, sI 7, .unset, .unset, .unset] [(.int 7), (.ref a4)])) ?_ fun t k => (by
      refine XS.aload X0.here hx rfl (hb hby at_228) rfl rfl ?_
      refine XS.iload X0.here hx rfl (hb hby at_230) rfl ?_
      exact k)
    obtain ⟨sN126, sk126, sv126, sE126, sV126, sC126, sK126, sc126, sb126, sl126⟩ := own_Str.latin hS (own_lat2 (own_allS (by decide) (own_allS (by decide) (own_allS (by decide) (own_allS (by decide) (own_allS (by decide) (own_allS (by decide) (own_allS (by decide) (own_allS (by decide) (own_allS (by decide) (own_allS (by decide) own_all0)))))))))))
    obtain ⟨cq125, kq125, q125a, q125b, q125c⟩ := isOf hZ e0 hS.1
    obtain ⟨_, _, ⟨T125, L125, k125, n125⟩, -, X125, ⟨Lc125, hQ125, l125, y125, z125⟩, st125⟩ := X0.virtualBack hx (y := own_mn2) (z := own_mn2) hown (mvT hZ (own_i hw 33 rfl)) (mvT hZ (own_i hw 34 rfl)) (notFace_of_selects (args := #[]) (mvT hZ (own_i hw 36 rfl))) (mvT hZ (own_i hw 36 rfl)) (mvT hZ (own_i hw 35 rfl)) (by decide) (StrChars.Road.chN (W := 0) hZ (own_hch hw) (kI := 4) (own_i hw 2 rfl) sE126 sV126 sC126 sK126 sc126 sb126 (O2.ext Xo0.2) P5 (O4.ext Xo0.2) rG3 sl126 (i := 7) (Nat.le_of_ble_eq_true rfl) (j := (7 : Int32)) rfl (by decide) (by decide)) q125a q125c (g := (mkF m 232 #[sI p0, sI p1, sI p2, sI 1, sR a4, sR pd, sI 10, sI v7, sI v8, sI 7, .unset, .unset, .unset] [(.int 7), (.ref a4)])) rfl (by rw [hml]; rfl) (Steps.refl _) (argsL := [(.int 7)]) (rest := []) (lenOf own_pd1 rfl) rfl (by show 2 * 0 + _ ≤ _; exact Nat.le_of_eq rfl) (hb hby at_232) (fun _ _ => ⟨rfl, e0, (by decide : 2 + 0 ≤ _), (by decide : 50 + 0 ≤ _)⟩)
    dsimp only [own_R, Pt.U, Pt.locs, Pt.cells, Pt.slots] at X125 l125 y125 z125 st125 hQ125
    subst y125 z125
    obtain ⟨hv125, hL125, hh125⟩ := hQ125
    subst hL125
    have N125 : Fr n0 L125 := by rw [l125]; exact Fr.app N0 (Fr.nil n0)
    subst hv125
    refine own_to ?_ (fun t k => st125.trans k)
    refine own_to (V := T125.setTop (mkF m 241 #[sI p0, sI p1, sI p2, sI 1, sR a4, sR pd, sI 10, sI v7, sI v8, sI 7, .unset, .unset, sI 73] [])) ?_ fun t k => (by
      refine XS.bipush X125.here hx rfl (hb hby at_235) ?_
      refine XS.ixor X125.here hx rfl (hb hby at_237) rfl ?_
      refine XS.i2c X125.here hx rfl (hb hby at_238) rfl ?_
      refine XS.istore X125.here hx rfl (hb hby at_239) rfl (l' := #[sI p0, sI p1, sI p2, sI 1, sR a4, sR pd, sI 10, sI v7, sI v8, sI 7, .unset, .unset, sI 73]) rfl ?_
      exact k)
    exact own_sglfP l Z a0 hw hst p0 p1 p2 dv pd h0 n0 a4 ua v7 v8 (7 : Int32) (73 : Int32) hx hby hret hlk hml hnm hS0 hh hZ hown X125 hh125 hk0 Ch0 N125 Xo0 KK0 hR hS (Or.inr (Or.inr (Or.inr (Or.inr (Or.inr (Or.inr (Or.inr (Or.inl ⟨rfl, rfl⟩))))))))
  · skip
    subst hcv109_8
    refine own_to (V := T0.setTop (mkF m 232 #[sI p0, sI p1, sI p2, sI 1, sR a4, sR pd, sI 10, sI v7, sI v8, sI 8, .unset, .unset, .unset] [(.int 8), (.ref a4)])) ?_ fun t k => (by
      refine XS.aload X0.here hx rfl (hb hby at_228) rfl rfl ?_
      refine XS.iload X0.here hx rfl (hb hby at_230) rfl ?_
      exact k)
    obtain ⟨sN128, sk128, sv128, sE128, sV128, sC128, sK128, sc128, sb128, sl128⟩ := own_Str.latin hS (own_lat2 (own_allS (by decide) (own_allS (by decide) (own_allS (by decide) (own_allS (by decide) (own_allS (by decide) (own_allS (by decide) (own_allS (by decide) (own_allS (by decide) (own_allS (by decide) (own_allS (by decide) own_all0)))))))))))
    obtain ⟨cq127, kq127, q127a, q127b, q127c⟩ := isOf hZ e0 hS.1
    obtain ⟨_, _, ⟨T127, L127, k127, n127⟩, -, X127, ⟨Lc127, hQ127, l127, y127, z127⟩, st127⟩ := X0.virtualBack hx (y := own_mn2) (z := own_mn2) hown (mvT hZ (own_i hw 33 rfl)) (mvT hZ (own_i hw 34 rfl)) (notFace_of_selects (args := #[]) (mvT hZ (own_i hw 36 rfl))) (mvT hZ (own_i hw 36 rfl)) (mvT hZ (own_i hw 35 rfl)) (by decide) (StrChars.Road.chN (W := 0) hZ (own_hch hw) (kI := 4) (own_i hw 2 rfl) sE128 sV128 sC128 sK128 sc128 sb128 (O2.ext Xo0.2) P5 (O4.ext Xo0.2) rG3 sl128 (i := 8) (Nat.le_of_ble_eq_true rfl) (j := (8 : Int32)) rfl (by decide) (by decide)) q127a q127c (g := (mkF m 232 #[sI p0, sI p1, sI p2, sI 1, sR a4, sR pd, sI 10, sI v7, sI v8, sI 8, .unset, .unset, .unset] [(.int 8), (.ref a4)])) rfl (by rw [hml]; rfl) (Steps.refl _) (argsL := [(.int 8)]) (rest := []) (lenOf own_pd1 rfl) rfl (by show 2 * 0 + _ ≤ _; exact Nat.le_of_eq rfl) (hb hby at_232) (fun _ _ => ⟨rfl, e0, (by decide : 2 + 0 ≤ _), (by decide : 50 + 0 ≤ _)⟩)
    dsimp only [own_R, Pt.U, Pt.locs, Pt.cells, Pt.slots] at X127 l127 y127 z127 st127 hQ127
    subst y127 z127
    obtain ⟨hv127, hL127, hh127⟩ := hQ127
    subst hL127
    have N127 : Fr n0 L127 := by rw [l127]; exact Fr.app N0 (Fr.nil n0)
    subst hv127
    refine own_to ?_ (fun t k => st127.trans k)
    refine own_to (V := T127.setTop (mkF m 241 #[sI p0, sI p1, sI p2, sI 1, sR a4, sR pd, sI 10, sI v7, sI v8, sI 8, .unset, .unset, sI 79] [])) ?_ fun t k => (by
      refine XS.bipush X127.here hx rfl (hb hby at_235) ?_
      refine XS.ixor X127.here hx rfl (hb hby at_237) rfl ?_
      refine XS.i2c X127.here hx rfl (hb hby at_238) rfl ?_
      refine XS.istore X127.here hx rfl (hb hby at_239) rfl (l' := #[sI p0, sI p1, sI p2, sI 1, sR a4, sR pd, sI 10, sI v7, sI v8, sI 8, .unset, .unset, sI 79]) rfl ?_
      exact k)
    exact own_sglfP l Z a0 hw hst p0 p1 p2 dv pd h0 n0 a4 ua v7 v8 (8 : Int32) (79 : Int32) hx hby hret hlk hml hnm hS0 hh hZ hown X127 hh127 hk0 Ch0 N127 Xo0 KK0 hR hS (Or.inr (Or.inr (Or.inr (Or.inr (Or.inr (Or.inr (Or.inr (Or.inr (Or.inl ⟨rfl, rfl⟩)))))))))
  · skip
    subst hcv110_9
    refine own_to (V := T0.setTop (mkF m 232 #[sI p0, sI p1, sI p2, sI 1, sR a4, sR pd, sI 10, sI v7, sI v8, sI 9, .unset, .unset, .unset] [(.int 9), (.ref a4)])) ?_ fun t k => (by
      refine XS.aload X0.here hx rfl (hb hby at_228) rfl rfl ?_
      refine XS.iload X0.here hx rfl (hb hby at_230) rfl ?_
      exact k)
    obtain ⟨sN130, sk130, sv130, sE130, sV130, sC130, sK130, sc130, sb130, sl130⟩ := own_Str.latin hS (own_lat2 (own_allS (by decide) (own_allS (by decide) (own_allS (by decide) (own_allS (by decide) (own_allS (by decide) (own_allS (by decide) (own_allS (by decide) (own_allS (by decide) (own_allS (by decide) (own_allS (by decide) own_all0)))))))))))
    obtain ⟨cq129, kq129, q129a, q129b, q129c⟩ := isOf hZ e0 hS.1
    obtain ⟨_, _, ⟨T129, L129, k129, n129⟩, -, X129, ⟨Lc129, hQ129, l129, y129, z129⟩, st129⟩ := X0.virtualBack hx (y := own_mn2) (z := own_mn2) hown (mvT hZ (own_i hw 33 rfl)) (mvT hZ (own_i hw 34 rfl)) (notFace_of_selects (args := #[]) (mvT hZ (own_i hw 36 rfl))) (mvT hZ (own_i hw 36 rfl)) (mvT hZ (own_i hw 35 rfl)) (by decide) (StrChars.Road.chN (W := 0) hZ (own_hch hw) (kI := 4) (own_i hw 2 rfl) sE130 sV130 sC130 sK130 sc130 sb130 (O2.ext Xo0.2) P5 (O4.ext Xo0.2) rG3 sl130 (i := 9) (Nat.le_of_ble_eq_true rfl) (j := (9 : Int32)) rfl (by decide) (by decide)) q129a q129c (g := (mkF m 232 #[sI p0, sI p1, sI p2, sI 1, sR a4, sR pd, sI 10, sI v7, sI v8, sI 9, .unset, .unset, .unset] [(.int 9), (.ref a4)])) rfl (by rw [hml]; rfl) (Steps.refl _) (argsL := [(.int 9)]) (rest := []) (lenOf own_pd1 rfl) rfl (by show 2 * 0 + _ ≤ _; exact Nat.le_of_eq rfl) (hb hby at_232) (fun _ _ => ⟨rfl, e0, (by decide : 2 + 0 ≤ _), (by decide : 50 + 0 ≤ _)⟩)
    dsimp only [own_R, Pt.U, Pt.locs, Pt.cells, Pt.slots] at X129 l129 y129 z129 st129 hQ129
    subst y129 z129
    obtain ⟨hv129, hL129, hh129⟩ := hQ129
    subst hL129
    have N129 : Fr n0 L129 := by rw [l129]; exact Fr.app N0 (Fr.nil n0)
    subst hv129
    refine own_to ?_ (fun t k => st129.trans k)
    refine own_to (V := T129.setTop (mkF m 241 #[sI p0, sI p1, sI p2, sI 1, sR a4, sR pd, sI 10, sI v7, sI v8, sI 9, .unset, .unset, sI 78] [])) ?_ fun t k => (by
      refine XS.bipush X129.here hx rfl (hb hby at_235) ?_
      refine XS.ixor X129.here hx rfl (hb hby at_237) rfl ?_
      refine XS.i2c X129.here hx rfl (hb hby at_238) rfl ?_
      refine XS.istore X129.here hx rfl (hb hby at_239) rfl (l' := #[sI p0, sI p1, sI p2, sI 1, sR a4, sR pd, sI 10, sI v7, sI v8, sI 9, .unset, .unset, sI 78]) rfl ?_
      exact k)
    exact own_sglfP l Z a0 hw hst p0 p1 p2 dv pd h0 n0 a4 ua v7 v8 (9 : Int32) (78 : Int32) hx hby hret hlk hml hnm hS0 hh hZ hown X129 hh129 hk0 Ch0 N129 Xo0 KK0 hR hS (Or.inr (Or.inr (Or.inr (Or.inr (Or.inr (Or.inr (Or.inr (Or.inr (Or.inr ⟨rfl, rfl⟩)))))))))
set_option maxRecDepth 65536 in
set_option maxHeartbeats 40000000 in
theorem own_sglP (l : Launch) (Z : State) (a0 : Array Value) (hw : ∀ d ∈ tables_1, d.before a0 Z = true) (hst : own_St Z) (p0 : Int32) (p1 : Int32) (p2 : Int32) (dv : Addr) (pd : Addr) (h0 : Heap) (n0 : Nat) (a4 : Addr) (ua : Addr)
    {p : Program} {e : Env} {s : State} {m : MethodId} {args : Array Value} {below : List Frame} {meth : Method} {c : Code} (hx : p.tables.exec = Jvm.exec) (hby : c.code = code) (hret : meth.sig.returnType = ret) (hlk : meth.locks = false) (hml : c.maxLocals = 13) (hnm : meth.name = "law") {vm0 : Vm} {k0 : Nat} (hS0 : s.Since vm0 k0) (hh : s.heap = h0) (hZ : Z.Warmed39 (s.setVm vm0).vm) (hown : (s.setVm vm0).vm.findClass "com/example/tallowlark/tallowlark/server/StageFromArgumentPinLaw" = some m.cls)
    {T0 : State} {locs : List Loc} {h : Heap} (X0 : Stand p l e room_1 (s.setVm vm0) m args below meth c T0 locs 2 50) (e0 : T0.heap = h) (hk0 : k0 ≤ h.size) (Ch0 : CHr Z consts_1 s.vm h0 vm0 h) (N0 : Fr n0 locs) (Xo0 : Old Z n0 h) (KK0 : Keep h0 h []) (hR : own_Stg Z dv pd) (hS : own_Str Z h a4 ua ([(80 : Int32), (114 : Int32), (111 : Int32), (100 : Int32), (117 : Int32), (99 : Int32), (116 : Int32), (105 : Int32), (111 : Int32), (110 : Int32)] : List Int32)) :
    own_Go p e below (own_PostH Z s (own_Qlaw Z p0 p1 p2 dv pd h0 n0) room_1.cells room_1.slots) (T0.setTop (mkF m 40 #[sI p0, sI p1, sI p2, sI 1, sR a4, sR pd, .unset, .unset, .unset, .unset, .unset, .unset, .unset] [])) := by
  obtain ⟨⟨G1, O2, P5⟩, ⟨G3, O4, rG3⟩, -⟩ := id hst
  obtain ⟨oD, oP, eD, eP, va, kV, sd, ud, sp, up, oV, eV, aV, fD, fP, sD, sP⟩ := id hR
  refine own_to (V := T0.setTop (mkF m 42 #[sI p0, sI p1, sI p2, sI 1, sR a4, sR pd, .unset, .unset, .unset, .unset, .unset, .unset, .unset] [(.ref a4)])) ?_ fun t k => (by
    refine XS.aload X0.here hx rfl (hb hby at_40) rfl rfl ?_
    exact k)
  obtain ⟨sE102, sd102, sN102, sk102, sv102, sV102, sC102, sK102, sc102, sb102, sl102⟩ := id hS
  obtain ⟨cq101, kq101, q101a, q101b, q101c⟩ := isOf hZ e0 hS.1
  obtain ⟨_, _, ⟨T101, L101, k101, n101⟩, -, X101, ⟨Lc101, hQ101, l101, y101, z101⟩, st101⟩ := X0.virtualBack hx (y := own_mn1) (z := own_mn1) hown (mvT hZ (own_i hw 11 rfl)) (mvT hZ (own_i hw 12 rfl)) (notFace_of_selects (args := #[]) (mvT hZ (own_i hw 14 rfl))) (mvT hZ (own_i hw 14 rfl)) (mvT hZ (own_i hw 13 rfl)) (by decide) (StrChars.Road.lenW (W := 0) hZ (own_hln hw) (kI := 4) (own_i hw 2 rfl) sE102 sV102 sC102 sK102 sc102 sb102 (O2.ext Xo0.2) P5 sl102 (by decide) (by decide)) q101a q101c (g := (mkF m 42 #[sI p0, sI p1, sI p2, sI 1, sR a4, sR pd, .unset, .unset, .unset, .unset, .unset, .unset, .unset] [(.ref a4)])) rfl (by rw [hml]; rfl) (Steps.refl _) (argsL := []) (rest := []) (lenOf own_pd0 rfl) rfl (by show 2 * 0 + _ ≤ _; exact Nat.le_of_eq rfl) (hb hby at_42) (fun _ _ => ⟨rfl, e0, (by decide : 2 + 0 ≤ _), (by decide : 50 + 0 ≤ _)⟩)
  dsimp only [own_R, Pt.U, Pt.locs, Pt.cells, Pt.slots] at X101 l101 y101 z101 st101 hQ101
  subst y101 z101
  obtain ⟨hv101, hL101, hh101⟩ := hQ101
  subst hL101
  have N101 : Fr n0 L101 := by rw [l101]; exact Fr.app N0 (Fr.nil n0)
  subst hv101
  refine own_to ?_ (fun t k => st101.trans k)
  obtain ⟨x103, hx103⟩ : ∃ z : Int32, z = (((p0.toUInt32 >>> ((1 : Int32) &&& 31).toUInt32).toInt32) &&& (7 : Int32)) := ⟨_, rfl⟩
  refine own_to (V := T101.setTop (mkF m 55 #[sI p0, sI p1, sI p2, sI 1, sR a4, sR pd, sI 10, sI x103, .unset, .unset, .unset, .unset, .unset] [])) ?_ fun t k => (by
    first | rw [hx103] at k | skip
    refine XS.istore X101.here hx rfl (hb hby at_45) rfl (l' := #[sI p0, sI p1, sI p2, sI 1, sR a4, sR pd, sI 10, .unset, .unset, .unset, .unset, .unset, .unset]) rfl ?_
    refine XS.iloadN X101.here hx rfl (hb hby at_47) rfl ?_
    refine XS.iconst X101.here hx rfl (hb hby at_48) ?_
    refine XS.iushr X101.here hx rfl (hb hby at_49) rfl ?_
    refine XS.bipush X101.here hx rfl (hb hby at_50) ?_
    refine XS.iand X101.here hx rfl (hb hby at_52) rfl ?_
    refine XS.istore X101.here hx rfl (hb hby at_53) rfl (l' := #[sI p0, sI p1, sI p2, sI 1, sR a4, sR pd, sI 10, sI (((p0.toUInt32 >>> ((1 : Int32) &&& 31).toUInt32).toInt32) &&& (7 : Int32)), .unset, .unset, .unset, .unset, .unset]) rfl ?_
    exact k)
  obtain ⟨c104, hc104⟩ : ∃ z : Int32, z = ((p2 &&& (255 : Int32)).toUInt32.toUInt16.toUInt32.toInt32) := ⟨_, rfl⟩
  have rc_c104 : ¬ c104 < 0 ∧ ¬ (65535 : Int32) < c104 := by rw [hc104]; exact own_i2c_rng _
  have rb_c104 : ¬ c104 < 0 ∧ ¬ (255 : Int32) < c104 := by rw [hc104]; exact own_and255 _
  refine own_to (V := T101.setTop (mkF m 61 #[sI p0, sI p1, sI p2, sI 1, sR a4, sR pd, sI 10, sI x103, .unset, .unset, .unset, .unset, .unset] [(.int c104)])) ?_ fun t k => (by
    first | rw [hc104] at k | skip
    refine XS.iloadN X101.here hx rfl (hb hby at_55) rfl ?_
    refine XS.sipush X101.here hx rfl (hb hby at_56) ?_
    refine XS.iand X101.here hx rfl (hb hby at_59) rfl ?_
    refine XS.i2c X101.here hx rfl (hb hby at_60) rfl ?_
    exact k)
  refine own_to (V := T101.setTop (mkF m 64 #[sI p0, sI p1, sI p2, sI 1, sR a4, sR pd, sI 10, sI x103, sI c104, .unset, .unset, .unset, .unset] [(.int p1)])) ?_ fun t k => (by
    refine XS.istore X101.here hx rfl (hb hby at_61) rfl (l' := #[sI p0, sI p1, sI p2, sI 1, sR a4, sR pd, sI 10, sI x103, sI c104, .unset, .unset, .unset, .unset]) rfl ?_
    refine XS.iloadN X101.here hx rfl (hb hby at_63) rfl ?_
    exact k)
  refine own_to (V := T101.setTop (mkF m 66 #[sI p0, sI p1, sI p2, sI 1, sR a4, sR pd, sI 10, sI x103, sI c104, .unset, .unset, .unset, .unset] [(.int 2147483647), (.int p1)])) ?_ (fun t k => X101.ldcInt hx hown (mvT hZ (own_i hw 24 rfl)) (g := (mkF m 64 #[sI p0, sI p1, sI p2, sI 1, sR a4, sR pd, sI 10, sI x103, sI c104, .unset, .unset, .unset, .unset] [(.int p1)])) rfl (hb hby at_64) t k)
  obtain ⟨x105, hx105⟩ : ∃ z : Int32, z = ((p1 &&& (2147483647 : Int32)) % (10 : Int32)) := ⟨_, rfl⟩
  refine own_to (V := T101.setTop (mkF m 72 #[sI p0, sI p1, sI p2, sI 1, sR a4, sR pd, sI 10, sI x103, sI c104, sI x105, .unset, .unset, .unset] [])) ?_ fun t k => (by
    first | rw [hx105] at k | skip
    refine XS.iand X101.here hx rfl (hb hby at_66) rfl ?_
    refine XS.iload X101.here hx rfl (hb hby at_67) rfl ?_
    refine own_irem X101.here hx rfl (hb hby at_69) rfl (by decide) ?_
    refine XS.istore X101.here hx rfl (hb hby at_70) rfl (l' := #[sI p0, sI p1, sI p2, sI 1, sR a4, sR pd, sI 10, sI x103, sI c104, sI ((p1 &&& (2147483647 : Int32)) % (10 : Int32)), .unset, .unset, .unset]) rfl ?_
    exact k)
  rcases (show x103 = 0 ∨ x103 = 1 ∨ x103 = 2 ∨ x103 = 3 ∨ x103 = 4 ∨ x103 = 5 ∨ x103 = 6 ∨ x103 = 7 from by rw [hx103]; exact own_and7 _) with hcv106_0 | hcv107_1 | hcv108_2 | hcv109_3 | hcv110_4 | hcv111_5 | hcv112_6 | hcv113_7
  · skip
    subst hcv106_0
    refine own_to (V := T101.setTop (mkF m 84 #[sI p0, sI p1, sI p2, sI 1, sR a4, sR pd, sI 10, sI 0, sI c104, sI x105, .unset, .unset, .unset] [(.int c104), (.int (-1)), (.int 10), (.ref a4)])) ?_ fun t k => (by
      refine XS.iload X101.here hx rfl (hb hby at_72) rfl ?_
      refine XS.ifNo X101.here hx rfl (hb hby at_74) rfl ((if0 _ _).trans (teq ((by decide) : (0 : Int32) = (0 : Int32))).2) ?_
      refine XS.aload X101.here hx rfl (hb hby at_77) rfl rfl ?_
      refine XS.iload X101.here hx rfl (hb hby at_79) rfl ?_
      refine XS.iconst X101.here hx rfl (hb hby at_81) ?_
      refine XS.iload X101.here hx rfl (hb hby at_82) rfl ?_
      exact k)
    obtain ⟨_, _, ⟨T114, L114, k114, n114⟩, -, X114, ⟨Lc114, hQ114, l114, y114, z114⟩, st114⟩ := Jvm.LawKit.callS X101 hx (y := own_mn3) hown (mvT hZ (own_i hw 25 rfl)) (mvT hZ (own_i hw 26 rfl)) (mvT hZ (own_i hw 27 rfl)) (mvT hZ (own_i hw 28 rfl)) (by decide) (backOf (W := 0) (own_rmmkP10 l Z a0 hw hst [] a4 ua (-1 : Int32) c104 h n0 Xo0 hS rb_c104) hZ (own_i hw 28 rfl) (own_i hw 27 rfl) (by decide) (by decide)) (g := (mkF m 84 #[sI p0, sI p1, sI p2, sI 1, sR a4, sR pd, sI 10, sI 0, sI c104, sI x105, .unset, .unset, .unset] [(.int c104), (.int (-1)), (.int 10), (.ref a4)])) rfl (by rw [hml]; rfl) (argsL := [(.ref a4), (.int 10), (.int (-1)), (.int c104)]) (rest := []) (lenOf own_pd7 rfl) rfl (by show 2 * 0 + _ ≤ _; exact Nat.le_of_eq rfl) (hb hby at_84) (fun _ _ => ⟨rfl, hh101, (by decide : 2 + 3 ≤ _), (by decide : 50 + 24 ≤ _)⟩)
    dsimp only [own_R, Pt.U, Pt.locs, Pt.cells, Pt.slots] at X114 l114 y114 z114 st114 hQ114
    subst y114 z114
    obtain ⟨oo114, ou114, hv114, N114q, K114, g114_0⟩ := hQ114
    subst hv114
    obtain ⟨h114, e114⟩ : ∃ z, T114.heap = z := ⟨_, rfl⟩
    rw [e114] at K114 g114_0
    have Cs114 : CHr Z consts_1 vm0 h vm0 h114 := CHr.keep K114 sf0 Ch0.1
    have Ch114 := Ch0.trans Cs114
    have Xo114 := Xo0.keep K114 all0
    have KK114 := KK0.trans K114 all0
    have N114 : Fr n0 L114 := by rw [l114]; exact Fr.app N101 N114q
    refine own_to ?_ st114
    refine own_to (V := T114.setTop (mkF m 257 #[sI p0, sI p1, sI p2, sI 1, sR a4, sR pd, sI 10, sI 0, sI c104, sI x105, sR oo114, sR pd, .unset] [])) ?_ fun t k => (by
      refine XS.astore X114.here hx rfl (hb hby at_87) rfl rfl (l' := #[sI p0, sI p1, sI p2, sI 1, sR a4, sR pd, sI 10, sI 0, sI c104, sI x105, sR oo114, .unset, .unset]) rfl ?_
      refine XS.aload X114.here hx rfl (hb hby at_89) rfl rfl ?_
      refine XS.astore X114.here hx rfl (hb hby at_91) rfl rfl (l' := #[sI p0, sI p1, sI p2, sI 1, sR a4, sR pd, sI 10, sI 0, sI c104, sI x105, sR oo114, sR pd, .unset]) rfl ?_
      refine XS.goto X114.here hx rfl (pc0 := 93) (pc' := 257) rfl (hb hby at_93) (by decide) (by decide) ?_
      exact k)
    exact own_sglr l Z a0 hw hst p0 p1 p2 dv pd h0 n0 (1 : Int32) a4 pd (10 : Int32) (0 : Int32) c104 x105 .unset oo114 ou114 (.ref pd) ([(own_at (0 : Int32) (-1 : Int32) c104 (80 : Int32)), (own_at (1 : Int32) (-1 : Int32) c104 (114 : Int32)), (own_at (2 : Int32) (-1 : Int32) c104 (111 : Int32)), (own_at (3 : Int32) (-1 : Int32) c104 (100 : Int32)), (own_at (4 : Int32) (-1 : Int32) c104 (117 : Int32)), (own_at (5 : Int32) (-1 : Int32) c104 (99 : Int32)), (own_at (6 : Int32) (-1 : Int32) c104 (116 : Int32)), (own_at (7 : Int32) (-1 : Int32) c104 (105 : Int32)), (own_at (8 : Int32) (-1 : Int32) c104 (111 : Int32)), (own_at (9 : Int32) (-1 : Int32) c104 (110 : Int32))] : List Int32) hx hby hret hlk hml hnm hS0 hh hZ hown (X114.wide (L' := _) (cells' := 12) (slots' := 200) (fun x hx _ => hx) (by decide) (by decide)) e114 (Nat.le_trans hk0 K114.1) Ch114 N114 Xo114 KK114 hR rfl g114_0 (Or.inr (Or.inl ⟨rfl, rfl⟩))
  · skip
    subst hcv107_1
    refine own_to (V := T101.setTop (mkF m 108 #[sI p0, sI p1, sI p2, sI 1, sR a4, sR pd, sI 10, sI 1, sI c104, sI x105, .unset, .unset, .unset] [])) ?_ fun t k => (by
      refine XS.iload X101.here hx rfl (hb hby at_72) rfl ?_
      refine XS.ifYes X101.here hx rfl (pc0 := 74) (pc' := 96) rfl (hb hby at_74) rfl ((if0 _ _).trans (feq ((by decide) : ¬ ((1 : Int32) = (0 : Int32)))).2) (by decide) (by decide) ?_
      refine XS.iload X101.here hx rfl (hb hby at_96) rfl ?_
      refine XS.iconst X101.here hx rfl (hb hby at_98) ?_
      refine XS.icmpYes X101.here hx rfl (pc0 := 99) (pc' := 108) rfl (hb hby at_99) rfl (teq ((by decide) : (1 : Int32) = (1 : Int32))).1 (by decide) (by decide) ?_
      exact k)
    exact own_sglbP l Z a0 hw hst p0 p1 p2 dv pd h0 n0 a4 ua (1 : Int32) c104 x105 hx hby hret hlk hml hnm hS0 hh hZ hown X101 hh101 hk0 Ch0 N101 Xo0 KK0 hR hS (show x105 = (0 : Int32) ∨ x105 = (1 : Int32) ∨ x105 = (2 : Int32) ∨ x105 = (3 : Int32) ∨ x105 = (4 : Int32) ∨ x105 = (5 : Int32) ∨ x105 = (6 : Int32) ∨ x105 = (7 : Int32) ∨ x105 = (8 : Int32) ∨ x105 = (9 : Int32) from by rw [hx105]; exact own_rem10 _) rb_c104
  · skip
    subst hcv108_2
    refine own_to (V := T101.setTop (mkF m 108 #[sI p0, sI p1, sI p2, sI 1, sR a4, sR pd, sI 10, sI 2, sI c104, sI x105, .unset, .unset, .unset] [])) ?_ fun t k => (by
      refine XS.iload X101.here hx rfl (hb hby at_72) rfl ?_
      refine XS.ifYes X101.here hx rfl (pc0 := 74) (pc' := 96) rfl (hb hby at_74) rfl ((if0 _ _).trans (feq ((by decide) : ¬ ((2 : Int32) = (0 : Int32)))).2) (by decide) (by decide) ?_
      refine XS.iload X101.here hx rfl (hb hby at_96) rfl ?_
      refine XS.iconst X101.here hx rfl (hb hby at_98) ?_
      refine XS.icmpNo X101.here hx rfl (hb hby at_99) rfl (feq ((by decide) : ¬ ((2 : Int32) = (1 : Int32)))).1 ?_
      refine XS.iload X101.here hx rfl (hb hby at_102) rfl ?_
      refine XS.iconst X101.here hx rfl (hb hby at_104) ?_
      refine XS.icmpNo X101.here hx rfl (hb hby at_105) rfl (teq ((by decide) : (2 : Int32) = (2 : Int32))).2 ?_
      exact k)
    exact own_sglbP l Z a0 hw hst p0 p1 p2 dv pd h0 n0 a4 ua (2 : Int32) c104 x105 hx hby hret hlk hml hnm hS0 hh hZ hown X101 hh101 hk0 Ch0 N101 Xo0 KK0 hR hS (show x105 = (0 : Int32) ∨ x105 = (1 : Int32) ∨ x105 = (2 : Int32) ∨ x105 = (3 : Int32) ∨ x105 = (4 : Int32) ∨ x105 = (5 : Int32) ∨ x105 = (6 : Int32) ∨ x105 = (7 : Int32) ∨ x105 = (8 : Int32) ∨ x105 = (9 : Int32) from by rw [hx105]; exact own_rem10 _) rb_c104
  · skip
    subst hcv109_3
    refine own_to (V := T101.setTop (mkF m 159 #[sI p0, sI p1, sI p2, sI 1, sR a4, sR pd, sI 10, sI 3, sI c104, sI x105, .unset, .unset, .unset] [(.int c104), (.int (-1)), (.int 9), (.ref a4)])) ?_ fun t k => (by
      refine XS.iload X101.here hx rfl (hb hby at_72) rfl ?_
      refine XS.ifYes X101.here hx rfl (pc0 := 74) (pc' := 96) rfl (hb hby at_74) rfl ((if0 _ _).trans (feq ((by decide) : ¬ ((3 : Int32) = (0 : Int32)))).2) (by decide) (by decide) ?_
      refine XS.iload X101.here hx rfl (hb hby at_96) rfl ?_
      refine XS.iconst X101.here hx rfl (hb hby at_98) ?_
      refine XS.icmpNo X101.here hx rfl (hb hby at_99) rfl (feq ((by decide) : ¬ ((3 : Int32) = (1 : Int32)))).1 ?_
      refine XS.iload X101.here hx rfl (hb hby at_102) rfl ?_
      refine XS.iconst X101.here hx rfl (hb hby at_104) ?_
      refine XS.icmpYes X101.here hx rfl (pc0 := 105) (pc' := 144) rfl (hb hby at_105) rfl (feq ((by decide) : ¬ ((3 : Int32) = (2 : Int32)))).2 (by decide) (by decide) ?_
      refine XS.iload X101.here hx rfl (hb hby at_144) rfl ?_
      refine XS.iconst X101.here hx rfl (hb hby at_146) ?_
      refine XS.icmpNo X101.here hx rfl (hb hby at_147) rfl (teq ((by decide) : (3 : Int32) = (3 : Int32))).2 ?_
      refine XS.aload X101.here hx rfl (hb hby at_150) rfl rfl ?_
      refine XS.iload X101.here hx rfl (hb hby at_152) rfl ?_
      refine XS.iconst X101.here hx rfl (hb hby at_154) ?_
      refine XS.isub X101.here hx rfl (hb hby at_155) rfl ?_
      refine XS.iconst X101.here hx rfl (hb hby at_156) ?_
      refine XS.iload X101.here hx rfl (hb hby at_157) rfl ?_
      exact k)
    obtain ⟨_, _, ⟨T115, L115, k115, n115⟩, -, X115, ⟨Lc115, hQ115, l115, y115, z115⟩, st115⟩ := Jvm.LawKit.callS X101 hx (y := own_mn3) hown (mvT hZ (own_i hw 25 rfl)) (mvT hZ (own_i hw 26 rfl)) (mvT hZ (own_i hw 27 rfl)) (mvT hZ (own_i hw 28 rfl)) (by decide) (backOf (W := 0) (own_rmmkP9 l Z a0 hw hst [] a4 ua (-1 : Int32) c104 h n0 Xo0 hS rb_c104) hZ (own_i hw 28 rfl) (own_i hw 27 rfl) (by decide) (by decide)) (g := (mkF m 159 #[sI p0, sI p1, sI p2, sI 1, sR a4, sR pd, sI 10, sI 3, sI c104, sI x105, .unset, .unset, .unset] [(.int c104), (.int (-1)), (.int 9), (.ref a4)])) rfl (by rw [hml]; rfl) (argsL := [(.ref a4), (.int 9), (.int (-1)), (.int c104)]) (rest := []) (lenOf own_pd7 rfl) rfl (by show 2 * 0 + _ ≤ _; exact Nat.le_of_eq rfl) (hb hby at_159) (fun _ _ => ⟨rfl, hh101, (by decide : 2 + 3 ≤ _), (by decide : 50 + 22 ≤ _)⟩)
    dsimp only [own_R, Pt.U, Pt.locs, Pt.cells, Pt.slots] at X115 l115 y115 z115 st115 hQ115
    subst y115 z115
    obtain ⟨oo115, ou115, hv115, N115q, K115, g115_0⟩ := hQ115
    subst hv115
    obtain ⟨h115, e115⟩ : ∃ z, T115.heap = z := ⟨_, rfl⟩
    rw [e115] at K115 g115_0
    have Cs115 : CHr Z consts_1 vm0 h vm0 h115 := CHr.keep K115 sf0 Ch0.1
    have Ch115 := Ch0.trans Cs115
    have Xo115 := Xo0.keep K115 all0
    have KK115 := KK0.trans K115 all0
    have N115 : Fr n0 L115 := by rw [l115]; exact Fr.app N101 N115q
    refine own_to ?_ st115
    refine own_to (V := T115.setTop (mkF m 257 #[sI p0, sI p1, sI p2, sI 1, sR a4, sR pd, sI 10, sI 3, sI c104, sI x105, sR oo115, .val .null, .unset] [])) ?_ fun t k => (by
      refine XS.astore X115.here hx rfl (hb hby at_162) rfl rfl (l' := #[sI p0, sI p1, sI p2, sI 1, sR a4, sR pd, sI 10, sI 3, sI c104, sI x105, sR oo115, .unset, .unset]) rfl ?_
      refine XS.aconstNull X115.here hx rfl (hb hby at_164) ?_
      refine XS.astore X115.here hx rfl (hb hby at_165) rfl rfl (l' := #[sI p0, sI p1, sI p2, sI 1, sR a4, sR pd, sI 10, sI 3, sI c104, sI x105, sR oo115, .val .null, .unset]) rfl ?_
      refine XS.goto X115.here hx rfl (pc0 := 167) (pc' := 257) rfl (hb hby at_167) (by decide) (by decide) ?_
      exact k)
    exact own_sglr l Z a0 hw hst p0 p1 p2 dv pd h0 n0 (1 : Int32) a4 pd (10 : Int32) (3 : Int32) c104 x105 .unset oo115 ou115 .null ([(own_at (0 : Int32) (-1 : Int32) c104 (80 : Int32)), (own_at (1 : Int32) (-1 : Int32) c104 (114 : Int32)), (own_at (2 : Int32) (-1 : Int32) c104 (111 : Int32)), (own_at (3 : Int32) (-1 : Int32) c104 (100 : Int32)), (own_at (4 : Int32) (-1 : Int32) c104 (117 : Int32)), (own_at (5 : Int32) (-1 : Int32) c104 (99 : Int32)), (own_at (6 : Int32) (-1 : Int32) c104 (116 : Int32)), (own_at (7 : Int32) (-1 : Int32) c104 (105 : Int32)), (own_at (8 : Int32) (-1 : Int32) c104 (111 : Int32))] : List Int32) hx hby hret hlk hml hnm hS0 hh hZ hown (X115.wide (L' := _) (cells' := 12) (slots' := 200) (fun x hx _ => hx) (by decide) (by decide)) e115 (Nat.le_trans hk0 K115.1) Ch115 N115 Xo115 KK115 hR rfl g115_0 (Or.inr (Or.inr ⟨(fun q => absurd (show (11 : Nat) = 9 from congrArg List.length q) (by decide)), (fun q => absurd (show (10 : Nat) = 9 from congrArg List.length q) (by decide)), rfl⟩))
  · skip
    subst hcv110_4
    refine own_to (V := T101.setTop (mkF m 185 #[sI p0, sI p1, sI p2, sI 1, sR a4, sR pd, sI 10, sI 4, sI c104, sI x105, .unset, .unset, .unset] [(.int c104), (.int (-1)), (.int 11), (.ref a4)])) ?_ fun t k => (by
      refine XS.iload X101.here hx rfl (hb hby at_72) rfl ?_
      refine XS.ifYes X101.here hx rfl (pc0 := 74) (pc' := 96) rfl (hb hby at_74) rfl ((if0 _ _).trans (feq ((by decide) : ¬ ((4 : Int32) = (0 : Int32)))).2) (by decide) (by decide) ?_
      refine XS.iload X101.here hx rfl (hb hby at_96) rfl ?_
      refine XS.iconst X101.here hx rfl (hb hby at_98) ?_
      refine XS.icmpNo X101.here hx rfl (hb hby at_99) rfl (feq ((by decide) : ¬ ((4 : Int32) = (1 : Int32)))).1 ?_
      refine XS.iload X101.here hx rfl (hb hby at_102) rfl ?_
      refine XS.iconst X101.here hx rfl (hb hby at_104) ?_
      refine XS.icmpYes X101.here hx rfl (pc0 := 105) (pc' := 144) rfl (hb hby at_105) rfl (feq ((by decide) : ¬ ((4 : Int32) = (2 : Int32)))).2 (by decide) (by decide) ?_
      refine XS.iload X101.here hx rfl (hb hby at_144) rfl ?_
      refine XS.iconst X101.here hx rfl (hb hby at_146) ?_
      refine XS.icmpYes X101.here hx rfl (pc0 := 147) (pc' := 170) rfl (hb hby at_147) rfl (feq ((by decide) : ¬ ((4 : Int32) = (3 : Int32)))).2 (by decide) (by decide) ?_
      refine XS.iload X101.here hx rfl (hb hby at_170) rfl ?_
      refine XS.iconst X101.here hx rfl (hb hby at_172) ?_
      refine XS.icmpNo X101.here hx rfl (hb hby at_173) rfl (teq ((by decide) : (4 : Int32) = (4 : Int32))).2 ?_
      refine XS.aload X101.here hx rfl (hb hby at_176) rfl rfl ?_
      refine XS.iload X101.here hx rfl (hb hby at_178) rfl ?_
      refine XS.iconst X101.here hx rfl (hb hby at_180) ?_
      refine XS.iadd X101.here hx rfl (hb hby at_181) rfl ?_
      refine XS.iconst X101.here hx rfl (hb hby at_182) ?_
      refine XS.iload X101.here hx rfl (hb hby at_183) rfl ?_
      exact k)
    obtain ⟨_, _, ⟨T116, L116, k116, n116⟩, -, X116, ⟨Lc116, hQ116, l116, y116, z116⟩, st116⟩ := Jvm.LawKit.callS X101 hx (y := own_mn3) hown (mvT hZ (own_i hw 25 rfl)) (mvT hZ (own_i hw 26 rfl)) (mvT hZ (own_i hw 27 rfl)) (mvT hZ (own_i hw 28 rfl)) (by decide) (backOf (W := 0) (own_rmmkP11 l Z a0 hw hst [] a4 ua (-1 : Int32) c104 h n0 Xo0 hS rb_c104) hZ (own_i hw 28 rfl) (own_i hw 27 rfl) (by decide) (by decide)) (g := (mkF m 185 #[sI p0, sI p1, sI p2, sI 1, sR a4, sR pd, sI 10, sI 4, sI c104, sI x105, .unset, .unset, .unset] [(.int c104), (.int (-1)), (.int 11), (.ref a4)])) rfl (by rw [hml]; rfl) (argsL := [(.ref a4), (.int 11), (.int (-1)), (.int c104)]) (rest := []) (lenOf own_pd7 rfl) rfl (by show 2 * 0 + _ ≤ _; exact Nat.le_of_eq rfl) (hb hby at_185) (fun _ _ => ⟨rfl, hh101, (by decide : 2 + 3 ≤ _), (by decide : 50 + 26 ≤ _)⟩)
    dsimp only [own_R, Pt.U, Pt.locs, Pt.cells, Pt.slots] at X116 l116 y116 z116 st116 hQ116
    subst y116 z116
    obtain ⟨oo116, ou116, hv116, N116q, K116, g116_0⟩ := hQ116
    subst hv116
    obtain ⟨h116, e116⟩ : ∃ z, T116.heap = z := ⟨_, rfl⟩
    rw [e116] at K116 g116_0
    have Cs116 : CHr Z consts_1 vm0 h vm0 h116 := CHr.keep K116 sf0 Ch0.1
    have Ch116 := Ch0.trans Cs116
    have Xo116 := Xo0.keep K116 all0
    have KK116 := KK0.trans K116 all0
    have N116 : Fr n0 L116 := by rw [l116]; exact Fr.app N101 N116q
    refine own_to ?_ st116
    refine own_to (V := T116.setTop (mkF m 257 #[sI p0, sI p1, sI p2, sI 1, sR a4, sR pd, sI 10, sI 4, sI c104, sI x105, sR oo116, .val .null, .unset] [])) ?_ fun t k => (by
      refine XS.astore X116.here hx rfl (hb hby at_188) rfl rfl (l' := #[sI p0, sI p1, sI p2, sI 1, sR a4, sR pd, sI 10, sI 4, sI c104, sI x105, sR oo116, .unset, .unset]) rfl ?_
      refine XS.aconstNull X116.here hx rfl (hb hby at_190) ?_
      refine XS.astore X116.here hx rfl (hb hby at_191) rfl rfl (l' := #[sI p0, sI p1, sI p2, sI 1, sR a4, sR pd, sI 10, sI 4, sI c104, sI x105, sR oo116, .val .null, .unset]) rfl ?_
      refine XS.goto X116.here hx rfl (pc0 := 193) (pc' := 257) rfl (hb hby at_193) (by decide) (by decide) ?_
      exact k)
    exact own_sglr l Z a0 hw hst p0 p1 p2 dv pd h0 n0 (1 : Int32) a4 pd (10 : Int32) (4 : Int32) c104 x105 .unset oo116 ou116 .null ([(own_at (0 : Int32) (-1 : Int32) c104 (80 : Int32)), (own_at (1 : Int32) (-1 : Int32) c104 (114 : Int32)), (own_at (2 : Int32) (-1 : Int32) c104 (111 : Int32)), (own_at (3 : Int32) (-1 : Int32) c104 (100 : Int32)), (own_at (4 : Int32) (-1 : Int32) c104 (117 : Int32)), (own_at (5 : Int32) (-1 : Int32) c104 (99 : Int32)), (own_at (6 : Int32) (-1 : Int32) c104 (116 : Int32)), (own_at (7 : Int32) (-1 : Int32) c104 (105 : Int32)), (own_at (8 : Int32) (-1 : Int32) c104 (111 : Int32)), (own_at (9 : Int32) (-1 : Int32) c104 (110 : Int32)), c104] : List Int32) hx hby hret hlk hml hnm hS0 hh hZ hown (X116.wide (L' := _) (cells' := 12) (slots' := 200) (fun x hx _ => hx) (by decide) (by decide)) e116 (Nat.le_trans hk0 K116.1) Ch116 N116 Xo116 KK116 hR rfl g116_0 (Or.inr (Or.inr ⟨(fun q => absurd (show (68 : Int32) = 80 from congrArg (fun l : List Int32 => l.getD 0 0) q) (by decide)), (fun q => absurd (show (10 : Nat) = 11 from congrArg List.length q) (by decide)), rfl⟩))
  · skip
    subst hcv111_5
    refine own_to (V := T101.setTop (mkF m 202 #[sI p0, sI p1, sI p2, sI 1, sR a4, sR pd, sI 10, sI 5, sI c104, sI x105, .unset, .unset, .unset] [])) ?_ fun t k => (by
      refine XS.iload X101.here hx rfl (hb hby at_72) rfl ?_
      refine XS.ifYes X101.here hx rfl (pc0 := 74) (pc' := 96) rfl (hb hby at_74) rfl ((if0 _ _).trans (feq ((by decide) : ¬ ((5 : Int32) = (0 : Int32)))).2) (by decide) (by decide) ?_
      refine XS.iload X101.here hx rfl (hb hby at_96) rfl ?_
      refine XS.iconst X101.here hx rfl (hb hby at_98) ?_
      refine XS.icmpNo X101.here hx rfl (hb hby at_99) rfl (feq ((by decide) : ¬ ((5 : Int32) = (1 : Int32)))).1 ?_
      refine XS.iload X101.here hx rfl (hb hby at_102) rfl ?_
      refine XS.iconst X101.here hx rfl (hb hby at_104) ?_
      refine XS.icmpYes X101.here hx rfl (pc0 := 105) (pc' := 144) rfl (hb hby at_105) rfl (feq ((by decide) : ¬ ((5 : Int32) = (2 : Int32)))).2 (by decide) (by decide) ?_
      refine XS.iload X101.here hx rfl (hb hby at_144) rfl ?_
      refine XS.iconst X101.here hx rfl (hb hby at_146) ?_
      refine XS.icmpYes X101.here hx rfl (pc0 := 147) (pc' := 170) rfl (hb hby at_147) rfl (feq ((by decide) : ¬ ((5 : Int32) = (3 : Int32)))).2 (by decide) (by decide) ?_
      refine XS.iload X101.here hx rfl (hb hby at_170) rfl ?_
      refine XS.iconst X101.here hx rfl (hb hby at_172) ?_
      refine XS.icmpYes X101.here hx rfl (pc0 := 173) (pc' := 196) rfl (hb hby at_173) rfl (feq ((by decide) : ¬ ((5 : Int32) = (4 : Int32)))).2 (by decide) (by decide) ?_
      refine XS.iload X101.here hx rfl (hb hby at_196) rfl ?_
      refine XS.iconst X101.here hx rfl (hb hby at_198) ?_
      refine XS.icmpNo X101.here hx rfl (hb hby at_199) rfl (teq ((by decide) : (5 : Int32) = (5 : Int32))).2 ?_
      exact k)
    obtain ⟨s117, T117, h117, k117, t117, kb117, X117, e117, E117, hS117, hk117, hZ117, hown117, gE117, gC117, gV117, gK117, la117, lb117, hC117, hL117, hne117, st117⟩ := ldcCH X101 hx hZ hown (own_i hw 108 rfl) (own_hsa hw) hh101 hS0 hk0 (own_hEL hw) (own_mem108) Ch0.1 (vs := ([] : List Value)) (z := (0 : Int32)) ⟨by decide, by decide +kernel⟩ (by decide) (by decide) (g := (mkF m 202 #[sI p0, sI p1, sI p2, sI 1, sR a4, sR pd, sI 10, sI 5, sI c104, sI x105, .unset, .unset, .unset] [])) rfl (hb hby at_202) (n := 0) (by decide) (by decide) (by decide) (by decide)
    have Cs117 : CHr Z consts_1 vm0 h T117.vm h117 := hC117
    have Ch117 := Ch0.trans Cs117
    have Xo117 := Xo0.ext E117
    have KK117 := KK0.ext E117
    have Fs117 : own_Str Z h117 s117 t117 ([] : List Int32) := own_mkLit gE117 gV117 gC117 gK117 (by decide) (by decide) (by decide +kernel) (by decide)
    refine own_to ?_ st117
    refine own_to (V := T117.setTop (mkF m 257 #[sI p0, sI p1, sI p2, sI 1, sR a4, sR pd, sI 10, sI 5, sI c104, sI x105, sR s117, .val .null, .unset] [])) ?_ fun t k => (by
      refine XS.astore X117.here hx rfl (hb hby at_204) rfl rfl (l' := #[sI p0, sI p1, sI p2, sI 1, sR a4, sR pd, sI 10, sI 5, sI c104, sI x105, sR s117, .unset, .unset]) rfl ?_
      refine XS.aconstNull X117.here hx rfl (hb hby at_206) ?_
      refine XS.astore X117.here hx rfl (hb hby at_207) rfl rfl (l' := #[sI p0, sI p1, sI p2, sI 1, sR a4, sR pd, sI 10, sI 5, sI c104, sI x105, sR s117, .val .null, .unset]) rfl ?_
      refine XS.goto X117.here hx rfl (pc0 := 209) (pc' := 257) rfl (hb hby at_209) (by decide) (by decide) ?_
      exact k)
    exact own_sglr l Z a0 hw hst p0 p1 p2 dv pd h0 n0 (1 : Int32) a4 pd (10 : Int32) (5 : Int32) c104 x105 .unset s117 t117 .null ([] : List Int32) hx hby hret hlk hml hnm hS117 hh hZ117 hown117 (X117.wide (L' := _) (cells' := 12) (slots' := 200) (fun x hx _ => hx) (by decide) (by decide)) e117 hk117 Ch117 N101 Xo117 KK117 hR rfl Fs117 (Or.inr (Or.inr ⟨(fun q => absurd (show (11 : Nat) = 0 from congrArg List.length q) (by decide)), (fun q => absurd (show (10 : Nat) = 0 from congrArg List.length q) (by decide)), rfl⟩))
  · skip
    subst hcv112_6
    refine own_to (V := T101.setTop (mkF m 257 #[sI p0, sI p1, sI p2, sI 1, sR a4, sR pd, sI 10, sI 6, sI c104, sI x105, .val .null, .val .null, .unset] [])) ?_ fun t k => (by
      refine XS.iload X101.here hx rfl (hb hby at_72) rfl ?_
      refine XS.ifYes X101.here hx rfl (pc0 := 74) (pc' := 96) rfl (hb hby at_74) rfl ((if0 _ _).trans (feq ((by decide) : ¬ ((6 : Int32) = (0 : Int32)))).2) (by decide) (by decide) ?_
      refine XS.iload X101.here hx rfl (hb hby at_96) rfl ?_
      refine XS.iconst X101.here hx rfl (hb hby at_98) ?_
      refine XS.icmpNo X101.here hx rfl (hb hby at_99) rfl (feq ((by decide) : ¬ ((6 : Int32) = (1 : Int32)))).1 ?_
      refine XS.iload X101.here hx rfl (hb hby at_102) rfl ?_
      refine XS.iconst X101.here hx rfl (hb hby at_104) ?_
      refine XS.icmpYes X101.here hx rfl (pc0 := 105) (pc' := 144) rfl (hb hby at_105) rfl (feq ((by decide) : ¬ ((6 : Int32) = (2 : Int32)))).2 (by decide) (by decide) ?_
      refine XS.iload X101.here hx rfl (hb hby at_144) rfl ?_
      refine XS.iconst X101.here hx rfl (hb hby at_146) ?_
      refine XS.icmpYes X101.here hx rfl (pc0 := 147) (pc' := 170) rfl (hb hby at_147) rfl (feq ((by decide) : ¬ ((6 : Int32) = (3 : Int32)))).2 (by decide) (by decide) ?_
      refine XS.iload X101.here hx rfl (hb hby at_170) rfl ?_
      refine XS.iconst X101.here hx rfl (hb hby at_172) ?_
      refine XS.icmpYes X101.here hx rfl (pc0 := 173) (pc' := 196) rfl (hb hby at_173) rfl (feq ((by decide) : ¬ ((6 : Int32) = (4 : Int32)))).2 (by decide) (by decide) ?_
      refine XS.iload X101.here hx rfl (hb hby at_196) rfl ?_
      refine XS.iconst X101.here hx rfl (hb hby at_198) ?_
      refine XS.icmpYes X101.here hx rfl (pc0 := 199) (pc' := 212) rfl (hb hby at_199) rfl (feq ((by decide) : ¬ ((6 : Int32) = (5 : Int32)))).2 (by decide) (by decide) ?_
      refine XS.iload X101.here hx rfl (hb hby at_212) rfl ?_
      refine XS.bipush X101.here hx rfl (hb hby at_214) ?_
      refine XS.icmpNo X101.here hx rfl (hb hby at_216) rfl (teq ((by decide) : (6 : Int32) = (6 : Int32))).2 ?_
      refine XS.aconstNull X101.here hx rfl (hb hby at_219) ?_
      refine XS.astore X101.here hx rfl (hb hby at_220) rfl rfl (l' := #[sI p0, sI p1, sI p2, sI 1, sR a4, sR pd, sI 10, sI 6, sI c104, sI x105, .val .null, .unset, .unset]) rfl ?_
      refine XS.aconstNull X101.here hx rfl (hb hby at_222) ?_
      refine XS.astore X101.here hx rfl (hb hby at_223) rfl rfl (l' := #[sI p0, sI p1, sI p2, sI 1, sR a4, sR pd, sI 10, sI 6, sI c104, sI x105, .val .null, .val .null, .unset]) rfl ?_
      refine XS.goto X101.here hx rfl (pc0 := 225) (pc' := 257) rfl (hb hby at_225) (by decide) (by decide) ?_
      exact k)
    exact own_sgln l Z a0 hw hst p0 p1 p2 dv pd h0 n0 (1 : Int32) a4 pd (10 : Int32) (6 : Int32) c104 x105 .unset hx hby hret hlk hml hnm hS0 hh hZ hown (X101.wide (L' := _) (cells' := 12) (slots' := 200) (fun x hx _ => hx) (by decide) (by decide)) hh101 hk0 Ch0 N101 Xo0 KK0 hR
  · skip
    subst hcv113_7
    refine own_to (V := T101.setTop (mkF m 228 #[sI p0, sI p1, sI p2, sI 1, sR a4, sR pd, sI 10, sI 7, sI c104, sI x105, .unset, .unset, .unset] [])) ?_ fun t k => (by
      refine XS.iload X101.here hx rfl (hb hby at_72) rfl ?_
      refine XS.ifYes X101.here hx rfl (pc0 := 74) (pc' := 96) rfl (hb hby at_74) rfl ((if0 _ _).trans (feq ((by decide) : ¬ ((7 : Int32) = (0 : Int32)))).2) (by decide) (by decide) ?_
      refine XS.iload X101.here hx rfl (hb hby at_96) rfl ?_
      refine XS.iconst X101.here hx rfl (hb hby at_98) ?_
      refine XS.icmpNo X101.here hx rfl (hb hby at_99) rfl (feq ((by decide) : ¬ ((7 : Int32) = (1 : Int32)))).1 ?_
      refine XS.iload X101.here hx rfl (hb hby at_102) rfl ?_
      refine XS.iconst X101.here hx rfl (hb hby at_104) ?_
      refine XS.icmpYes X101.here hx rfl (pc0 := 105) (pc' := 144) rfl (hb hby at_105) rfl (feq ((by decide) : ¬ ((7 : Int32) = (2 : Int32)))).2 (by decide) (by decide) ?_
      refine XS.iload X101.here hx rfl (hb hby at_144) rfl ?_
      refine XS.iconst X101.here hx rfl (hb hby at_146) ?_
      refine XS.icmpYes X101.here hx rfl (pc0 := 147) (pc' := 170) rfl (hb hby at_147) rfl (feq ((by decide) : ¬ ((7 : Int32) = (3 : Int32)))).2 (by decide) (by decide) ?_
      refine XS.iload X101.here hx rfl (hb hby at_170) rfl ?_
      refine XS.iconst X101.here hx rfl (hb hby at_172) ?_
      refine XS.icmpYes X101.here hx rfl (pc0 := 173) (pc' := 196) rfl (hb hby at_173) rfl (feq ((by decide) : ¬ ((7 : Int32) = (4 : Int32)))).2 (by decide) (by decide) ?_
      refine XS.iload X101.here hx rfl (hb hby at_196) rfl ?_
      refine XS.iconst X101.here hx rfl (hb hby at_198) ?_
      refine XS.icmpYes X101.here hx rfl (pc0 := 199) (pc' := 212) rfl (hb hby at_199) rfl (feq ((by decide) : ¬ ((7 : Int32) = (5 : Int32)))).2 (by decide) (by decide) ?_
      refine XS.iload X101.here hx rfl (hb hby at_212) rfl ?_
      refine XS.bipush X101.here hx rfl (hb hby at_214) ?_
      refine XS.icmpYes X101.here hx rfl (pc0 := 216) (pc' := 228) rfl (hb hby at_216) rfl (feq ((by decide) : ¬ ((7 : Int32) = (6 : Int32)))).2 (by decide) (by decide) ?_
      exact k)
    exact own_sgleP l Z a0 hw hst p0 p1 p2 dv pd h0 n0 a4 ua (7 : Int32) c104 x105 hx hby hret hlk hml hnm hS0 hh hZ hown X101 hh101 hk0 Ch0 N101 Xo0 KK0 hR hS (show x105 = (0 : Int32) ∨ x105 = (1 : Int32) ∨ x105 = (2 : Int32) ∨ x105 = (3 : Int32) ∨ x105 = (4 : Int32) ∨ x105 = (5 : Int32) ∨ x105 = (6 : Int32) ∨ x105 = (7 : Int32) ∨ x105 = (8 : Int32) ∨ x105 = (9 : Int32) from by rw [hx105]; exact own_rem10 _)
set_option maxRecDepth 65536 in
set_option maxHeartbeats 40000000 in
theorem own_sglcD (l : Launch) (Z : State) (a0 : Array Value) (hw : ∀ d ∈ tables_1, d.before a0 Z = true) (hst : own_St Z) (p0 : Int32) (p1 : Int32) (p2 : Int32) (dv : Addr) (pd : Addr) (h0 : Heap) (n0 : Nat) (a4 : Addr) (ua : Addr) (v7 : Int32) (v8 : Int32) (v9 : Int32) (ch : Int32) (oo : Addr) (ou : Addr)
    {p : Program} {e : Env} {s : State} {m : MethodId} {args : Array Value} {below : List Frame} {meth : Method} {c : Code} (hx : p.tables.exec = Jvm.exec) (hby : c.code = code) (hret : meth.sig.returnType = ret) (hlk : meth.locks = false) (hml : c.maxLocals = 13) (hnm : meth.name = "law") {vm0 : Vm} {k0 : Nat} (hS0 : s.Since vm0 k0) (hh : s.heap = h0) (hZ : Z.Warmed39 (s.setVm vm0).vm) (hown : (s.setVm vm0).vm.findClass "com/example/tallowlark/tallowlark/server/StageFromArgumentPinLaw" = some m.cls)
    {T0 : State} {locs : List Loc} {h : Heap} (X0 : Stand p l e room_1 (s.setVm vm0) m args below meth c T0 locs 11 190) (e0 : T0.heap = h) (hk0 : k0 ≤ h.size) (Ch0 : CHr Z consts_1 s.vm h0 vm0 h) (N0 : Fr n0 locs) (Xo0 : Old Z n0 h) (KK0 : Keep h0 h []) (hR : own_Stg Z dv pd) (hS : own_Str Z h a4 ua ([(68 : Int32), (101 : Int32), (118 : Int32), (101 : Int32), (108 : Int32), (111 : Int32), (112 : Int32), (109 : Int32), (101 : Int32), (110 : Int32), (116 : Int32)] : List Int32)) (hO : own_Str Z h oo ou ([(own_at (0 : Int32) v9 v8 (68 : Int32)), (own_at (1 : Int32) v9 v8 (101 : Int32)), (own_at (2 : Int32) v9 v8 (118 : Int32)), (own_at (3 : Int32) v9 v8 (101 : Int32)), (own_at (4 : Int32) v9 v8 (108 : Int32)), (own_at (5 : Int32) v9 v8 (111 : Int32)), (own_at (6 : Int32) v9 v8 (112 : Int32)), (own_at (7 : Int32) v9 v8 (109 : Int32)), (own_at (8 : Int32) v9 v8 (101 : Int32)), (own_at (9 : Int32) v9 v8 (110 : Int32)), (own_at (10 : Int32) v9 v8 (116 : Int32))] : List Int32)) (hd : (v9 = (0 : Int32) ∧ ch = (68 : Int32)) ∨ (v9 = (1 : Int32) ∧ ch = (101 : Int32)) ∨ (v9 = (2 : Int32) ∧ ch = (118 : Int32)) ∨ (v9 = (3 : Int32) ∧ ch = (101 : Int32)) ∨ (v9 = (4 : Int32) ∧ ch = (108 : Int32)) ∨ (v9 = (5 : Int32) ∧ ch = (111 : Int32)) ∨ (v9 = (6 : Int32) ∧ ch = (112 : Int32)) ∨ (v9 = (7 : Int32) ∧ ch = (109 : Int32)) ∨ (v9 = (8 : Int32) ∧ ch = (101 : Int32)) ∨ (v9 = (9 : Int32) ∧ ch = (110 : Int32)) ∨ (v9 = (10 : Int32) ∧ ch = (116 : Int32))) :
    own_Go p e below (own_PostH Z s (own_Qlaw Z p0 p1 p2 dv pd h0 n0) room_1.cells room_1.slots) (T0.setTop (mkF m 130 #[sI p0, sI p1, sI p2, sI 0, sR a4, sR dv, sI 11, sI v7, sI v8, sI v9, sR oo, .unset, .unset] [(.int ch), (.int v8)])) := by
  obtain ⟨⟨G1, O2, P5⟩, ⟨G3, O4, rG3⟩, -⟩ := id hst
  obtain ⟨oD, oP, eD, eP, va, kV, sd, ud, sp, up, oV, eV, aV, fD, fP, sD, sP⟩ := id hR
  by_cases hc130_101 : v8 = ch
  · skip
    refine own_to (V := T0.setTop (mkF m 257 #[sI p0, sI p1, sI p2, sI 0, sR a4, sR dv, sI 11, sI v7, sI v8, sI v9, sR oo, sR dv, .unset] [])) ?_ fun t k => (by
      refine XS.icmpNo X0.here hx rfl (hb hby at_130) rfl (teq (hc130_101 : v8 = ch)).2 ?_
      refine XS.aload X0.here hx rfl (hb hby at_133) rfl rfl ?_
      refine XS.goto X0.here hx rfl (pc0 := 135) (pc' := 139) rfl (hb hby at_135) (by decide) (by decide) ?_
      refine XS.astore X0.here hx rfl (hb hby at_139) rfl rfl (l' := #[sI p0, sI p1, sI p2, sI 0, sR a4, sR dv, sI 11, sI v7, sI v8, sI v9, sR oo, sR dv, .unset]) rfl ?_
      refine XS.goto X0.here hx rfl (pc0 := 141) (pc' := 257) rfl (hb hby at_141) (by decide) (by decide) ?_
      exact k)
    exact own_sglr l Z a0 hw hst p0 p1 p2 dv pd h0 n0 (0 : Int32) a4 dv (11 : Int32) v7 v8 v9 .unset oo ou (.ref dv) ([(own_at (0 : Int32) v9 v8 (68 : Int32)), (own_at (1 : Int32) v9 v8 (101 : Int32)), (own_at (2 : Int32) v9 v8 (118 : Int32)), (own_at (3 : Int32) v9 v8 (101 : Int32)), (own_at (4 : Int32) v9 v8 (108 : Int32)), (own_at (5 : Int32) v9 v8 (111 : Int32)), (own_at (6 : Int32) v9 v8 (112 : Int32)), (own_at (7 : Int32) v9 v8 (109 : Int32)), (own_at (8 : Int32) v9 v8 (101 : Int32)), (own_at (9 : Int32) v9 v8 (110 : Int32)), (own_at (10 : Int32) v9 v8 (116 : Int32))] : List Int32) hx hby hret hlk hml hnm hS0 hh hZ hown (X0.wide (L' := _) (cells' := 12) (slots' := 200) (fun x hx _ => hx) (by decide) (by decide)) e0 hk0 Ch0 N0 Xo0 KK0 hR rfl hO (Or.inl ⟨(own_psD hd hc130_101), rfl⟩)
  · skip
    refine own_to (V := T0.setTop (mkF m 257 #[sI p0, sI p1, sI p2, sI 0, sR a4, sR dv, sI 11, sI v7, sI v8, sI v9, sR oo, .val .null, .unset] [])) ?_ fun t k => (by
      refine XS.icmpYes X0.here hx rfl (pc0 := 130) (pc' := 138) rfl (hb hby at_130) rfl (feq (hc130_101 : ¬ (v8 = ch))).2 (by decide) (by decide) ?_
      refine XS.aconstNull X0.here hx rfl (hb hby at_138) ?_
      refine XS.astore X0.here hx rfl (hb hby at_139) rfl rfl (l' := #[sI p0, sI p1, sI p2, sI 0, sR a4, sR dv, sI 11, sI v7, sI v8, sI v9, sR oo, .val .null, .unset]) rfl ?_
      refine XS.goto X0.here hx rfl (pc0 := 141) (pc' := 257) rfl (hb hby at_141) (by decide) (by decide) ?_
      exact k)
    exact own_sglr l Z a0 hw hst p0 p1 p2 dv pd h0 n0 (0 : Int32) a4 dv (11 : Int32) v7 v8 v9 .unset oo ou .null ([(own_at (0 : Int32) v9 v8 (68 : Int32)), (own_at (1 : Int32) v9 v8 (101 : Int32)), (own_at (2 : Int32) v9 v8 (118 : Int32)), (own_at (3 : Int32) v9 v8 (101 : Int32)), (own_at (4 : Int32) v9 v8 (108 : Int32)), (own_at (5 : Int32) v9 v8 (111 : Int32)), (own_at (6 : Int32) v9 v8 (112 : Int32)), (own_at (7 : Int32) v9 v8 (109 : Int32)), (own_at (8 : Int32) v9 v8 (101 : Int32)), (own_at (9 : Int32) v9 v8 (110 : Int32)), (own_at (10 : Int32) v9 v8 (116 : Int32))] : List Int32) hx hby hret hlk hml hnm hS0 hh hZ hown (X0.wide (L' := _) (cells' := 12) (slots' := 200) (fun x hx _ => hx) (by decide) (by decide)) e0 hk0 Ch0 N0 Xo0 KK0 hR rfl hO (Or.inr (Or.inr ⟨(own_ngD hd hc130_101), (own_lnD _ _), rfl⟩))
set_option maxRecDepth 65536 in
set_option maxHeartbeats 40000000 in
theorem own_sglbD (l : Launch) (Z : State) (a0 : Array Value) (hw : ∀ d ∈ tables_1, d.before a0 Z = true) (hst : own_St Z) (p0 : Int32) (p1 : Int32) (p2 : Int32) (dv : Addr) (pd : Addr) (h0 : Heap) (n0 : Nat) (a4 : Addr) (ua : Addr) (v7 : Int32) (v8 : Int32) (v9 : Int32)
    {p : Program} {e : Env} {s : State} {m : MethodId} {args : Array Value} {below : List Frame} {meth : Method} {c : Code} (hx : p.tables.exec = Jvm.exec) (hby : c.code = code) (hret : meth.sig.returnType = ret) (hlk : meth.locks = false) (hml : c.maxLocals = 13) (hnm : meth.name = "law") {vm0 : Vm} {k0 : Nat} (hS0 : s.Since vm0 k0) (hh : s.heap = h0) (hZ : Z.Warmed39 (s.setVm vm0).vm) (hown : (s.setVm vm0).vm.findClass "com/example/tallowlark/tallowlark/server/StageFromArgumentPinLaw" = some m.cls)
    {T0 : State} {locs : List Loc} {h : Heap} (X0 : Stand p l e room_1 (s.setVm vm0) m args below meth c T0 locs 2 50) (e0 : T0.heap = h) (hk0 : k0 ≤ h.size) (Ch0 : CHr Z consts_1 s.vm h0 vm0 h) (N0 : Fr n0 locs) (Xo0 : Old Z n0 h) (KK0 : Keep h0 h []) (hR : own_Stg Z dv pd) (hS : own_Str Z h a4 ua ([(68 : Int32), (101 : Int32), (118 : Int32), (101 : Int32), (108 : Int32), (111 : Int32), (112 : Int32), (109 : Int32), (101 : Int32), (110 : Int32), (116 : Int32)] : List Int32)) (hi : v9 = (0 : Int32) ∨ v9 = (1 : Int32) ∨ v9 = (2 : Int32) ∨ v9 = (3 : Int32) ∨ v9 = (4 : Int32) ∨ v9 = (5 : Int32) ∨ v9 = (6 : Int32) ∨ v9 = (7 : Int32) ∨ v9 = (8 : Int32) ∨ v9 = (9 : Int32) ∨ v9 = (10 : Int32)) (h8 : ¬ v8 < 0 ∧ ¬ (255 : Int32) < v8) :
    own_Go p e below (own_PostH Z s (own_Qlaw Z p0 p1 p2 dv pd h0 n0) room_1.cells room_1.slots) (T0.setTop (mkF m 108 #[sI p0, sI p1, sI p2, sI 0, sR a4, sR dv, sI 11, sI v7, sI v8, sI v9, .unset, .unset, .unset] [])) := by
  obtain ⟨⟨G1, O2, P5⟩, ⟨G3, O4, rG3⟩, -⟩ := id hst
  obtain ⟨oD, oP, eD, eP, va, kV, sd, ud, sp, up, oV, eV, aV, fD, fP, sD, sP⟩ := id hR
  refine own_to (V := T0.setTop (mkF m 116 #[sI p0, sI p1, sI p2, sI 0, sR a4, sR dv, sI 11, sI v7, sI v8, sI v9, .unset, .unset, .unset] [(.int v8), (.int v9), (.int 11), (.ref a4)])) ?_ fun t k => (by
    refine XS.aload X0.here hx rfl (hb hby at_108) rfl rfl ?_
    refine XS.iload X0.here hx rfl (hb hby at_110) rfl ?_
    refine XS.iload X0.here hx rfl (hb hby at_112) rfl ?_
    refine XS.iload X0.here hx rfl (hb hby at_114) rfl ?_
    exact k)
  obtain ⟨_, _, ⟨T101, L101, k101, n101⟩, -, X101, ⟨Lc101, hQ101, l101, y101, z101⟩, st101⟩ := Jvm.LawKit.callS X0 hx (y := own_mn3) hown (mvT hZ (own_i hw 25 rfl)) (mvT hZ (own_i hw 26 rfl)) (mvT hZ (own_i hw 27 rfl)) (mvT hZ (own_i hw 28 rfl)) (by decide) (backOf (W := 0) (own_rmmkD11 l Z a0 hw hst [] a4 ua v9 v8 h n0 Xo0 hS h8) hZ (own_i hw 28 rfl) (own_i hw 27 rfl) (by decide) (by decide)) (g := (mkF m 116 #[sI p0, sI p1, sI p2, sI 0, sR a4, sR dv, sI 11, sI v7, sI v8, sI v9, .unset, .unset, .unset] [(.int v8), (.int v9), (.int 11), (.ref a4)])) rfl (by rw [hml]; rfl) (argsL := [(.ref a4), (.int 11), (.int v9), (.int v8)]) (rest := []) (lenOf own_pd7 rfl) rfl (by show 2 * 0 + _ ≤ _; exact Nat.le_of_eq rfl) (hb hby at_116) (fun _ _ => ⟨rfl, e0, (by decide : 2 + 3 ≤ _), (by decide : 50 + 26 ≤ _)⟩)
  dsimp only [own_R, Pt.U, Pt.locs, Pt.cells, Pt.slots] at X101 l101 y101 z101 st101 hQ101
  subst y101 z101
  obtain ⟨oo101, ou101, hv101, N101q, K101, g101_0⟩ := hQ101
  subst hv101
  obtain ⟨h101, e101⟩ : ∃ z, T101.heap = z := ⟨_, rfl⟩
  rw [e101] at K101 g101_0
  have Cs101 : CHr Z consts_1 vm0 h vm0 h101 := CHr.keep K101 sf0 Ch0.1
  have Ch101 := Ch0.trans Cs101
  have Xo101 := Xo0.keep K101 all0
  have KK101 := KK0.trans K101 all0
  have N101 : Fr n0 L101 := by rw [l101]; exact Fr.app N0 N101q
  refine own_to ?_ st101
  refine own_to (V := T101.setTop (mkF m 121 #[sI p0, sI p1, sI p2, sI 0, sR a4, sR dv, sI 11, sI v7, sI v8, sI v9, sR oo101, .unset, .unset] [])) ?_ fun t k => (by
    refine XS.astore X101.here hx rfl (hb hby at_119) rfl rfl (l' := #[sI p0, sI p1, sI p2, sI 0, sR a4, sR dv, sI 11, sI v7, sI v8, sI v9, sR oo101, .unset, .unset]) rfl ?_
    exact k)
  rcases hi with hcv102_0 | hcv103_1 | hcv104_2 | hcv105_3 | hcv106_4 | hcv107_5 | hcv108_6 | hcv109_7 | hcv110_8 | hcv111_9 | hcv112_10
  · skip
    subst hcv102_0
    refine own_to (V := T101.setTop (mkF m 127 #[sI p0, sI p1, sI p2, sI 0, sR a4, sR dv, sI 11, sI v7, sI v8, sI 0, sR oo101, .unset, .unset] [(.int 0), (.ref a4), (.int v8)])) ?_ fun t k => (by
      refine XS.iload X101.here hx rfl (hb hby at_121) rfl ?_
      refine XS.aload X101.here hx rfl (hb hby at_123) rfl rfl ?_
      refine XS.iload X101.here hx rfl (hb hby at_125) rfl ?_
      exact k)
    have F115 := (hS.keep K101 List.not_mem_nil List.not_mem_nil)
    obtain ⟨sN114, sk114, sv114, sE114, sV114, sC114, sK114, sc114, sb114, sl114⟩ := own_Str.latin F115 (own_lat2 (own_allS (by decide) (own_allS (by decide) (own_allS (by decide) (own_allS (by decide) (own_allS (by decide) (own_allS (by decide) (own_allS (by decide) (own_allS (by decide) (own_allS (by decide) (own_allS (by decide) (own_allS (by decide) own_all0))))))))))))
    obtain ⟨cq113, kq113, q113a, q113b, q113c⟩ := isOf hZ e101 F115.1
    obtain ⟨_, _, ⟨T113, L113, k113, n113⟩, -, X113, ⟨Lc113, hQ113, l113, y113, z113⟩, st113⟩ := X101.virtualBack hx (y := own_mn2) (z := own_mn2) hown (mvT hZ (own_i hw 33 rfl)) (mvT hZ (own_i hw 34 rfl)) (notFace_of_selects (args := #[]) (mvT hZ (own_i hw 36 rfl))) (mvT hZ (own_i hw 36 rfl)) (mvT hZ (own_i hw 35 rfl)) (by decide) (StrChars.Road.chN (W := 1) hZ (own_hch hw) (kI := 4) (own_i hw 2 rfl) sE114 sV114 sC114 sK114 sc114 sb114 (O2.ext Xo101.2) P5 (O4.ext Xo101.2) rG3 sl114 (i := 0) (Nat.le_of_ble_eq_true rfl) (j := (0 : Int32)) rfl (by decide) (by decide)) q113a q113c (g := (mkF m 127 #[sI p0, sI p1, sI p2, sI 0, sR a4, sR dv, sI 11, sI v7, sI v8, sI 0, sR oo101, .unset, .unset] [(.int 0), (.ref a4), (.int v8)])) rfl (by rw [hml]; rfl) (Steps.refl _) (argsL := [(.int 0)]) (rest := [(.int v8)]) (lenOf own_pd1 rfl) rfl (by show 2 * 0 + _ ≤ _; exact Nat.le_of_eq rfl) (hb hby at_127) (fun _ _ => ⟨rfl, e101, (by decide : 5 + 0 ≤ _), (by decide : 76 + 0 ≤ _)⟩)
    dsimp only [own_R, Pt.U, Pt.locs, Pt.cells, Pt.slots] at X113 l113 y113 z113 st113 hQ113
    subst y113 z113
    obtain ⟨hv113, hL113, hh113⟩ := hQ113
    subst hL113
    have N113 : Fr n0 L113 := by rw [l113]; exact Fr.app N101 (Fr.nil n0)
    subst hv113
    refine own_to ?_ (fun t k => st113.trans k)
    exact own_sglcD l Z a0 hw hst p0 p1 p2 dv pd h0 n0 a4 ua v7 v8 (0 : Int32) (68 : Int32) oo101 ou101 hx hby hret hlk hml hnm hS0 hh hZ hown (X113.wide (L' := _) (cells' := 11) (slots' := 190) (fun x hx _ => hx) (by decide) (by decide)) hh113 (Nat.le_trans hk0 K101.1) Ch101 N113 Xo101 KK101 hR F115 g101_0 (Or.inl ⟨rfl, rfl⟩)
  · skip
    subst hcv103_1
    refine own_to (V := T101.setTop (mkF m 127 #[sI p0, sI p1, sI p2, sI 0, sR a4, sR dv, sI 11, sI v7, sI v8, sI 1, sR oo101, .unset, .unset] [(.int 1), (.ref a4), (.int v8)])) ?_ fun t k => (by
      refine XS.iload X101.here hx rfl (hb hby at_121) rfl ?_
      refine XS.aload X101.here hx rfl (hb hby at_123) rfl rfl ?_
      refine XS.iload X101.here hx rfl (hb hby at_125) rfl ?_
      exact k)
    have F118 := (hS.keep K101 List.not_mem_nil List.not_mem_nil)
    obtain ⟨sN117, sk117, sv117, sE117, sV117, sC117, sK117, sc117, sb117, sl117⟩ := own_Str.latin F118 (own_lat2 (own_allS (by decide) (own_allS (by decide) (own_allS (by decide) (own_allS (by decide) (own_allS (by decide) (own_allS (by decide) (own_allS (by decide) (own_allS (by decide) (own_allS (by decide) (own_allS (by decide) (own_allS (by decide) own_all0))))))))))))
    obtain ⟨cq116, kq116, q116a, q116b, q116c⟩ := isOf hZ e101 F118.1
    obtain ⟨_, _, ⟨T116, L116, k116, n116⟩, -, X116, ⟨Lc116, hQ116, l116, y116, z116⟩, st116⟩ := X101.virtualBack hx (y := own_mn2) (z := own_mn2) hown (mvT hZ (own_i hw 33 rfl)) (mvT hZ (own_i hw 34 rfl)) (notFace_of_selects (args := #[]) (mvT hZ (own_i hw 36 rfl))) (mvT hZ (own_i hw 36 rfl)) (mvT hZ (own_i hw 35 rfl)) (by decide) (StrChars.Road.chN (W := 1) hZ (own_hch hw) (kI := 4) (own_i hw 2 rfl) sE117 sV117 sC117 sK117 sc117 sb117 (O2.ext Xo101.2) P5 (O4.ext Xo101.2) rG3 sl117 (i := 1) (Nat.le_of_ble_eq_true rfl) (j := (1 : Int32)) rfl (by decide) (by decide)) q116a q116c (g := (mkF m 127 #[sI p0, sI p1, sI p2, sI 0, sR a4, sR dv, sI 11, sI v7, sI v8, sI 1, sR oo101, .unset, .unset] [(.int 1), (.ref a4), (.int v8)])) rfl (by rw [hml]; rfl) (Steps.refl _) (argsL := [(.int 1)]) (rest := [(.int v8)]) (lenOf own_pd1 rfl) rfl (by show 2 * 0 + _ ≤ _; exact Nat.le_of_eq rfl) (hb hby at_127) (fun _ _ => ⟨rfl, e101, (by decide : 5 + 0 ≤ _), (by decide : 76 + 0 ≤ _)⟩)
    dsimp only [own_R, Pt.U, Pt.locs, Pt.cells, Pt.slots] at X116 l116 y116 z116 st116 hQ116
    subst y116 z116
    obtain ⟨hv116, hL116, hh116⟩ := hQ116
    subst hL116
    have N116 : Fr n0 L116 := by rw [l116]; exact Fr.app N101 (Fr.nil n0)
    subst hv116
    refine own_to ?_ (fun t k => st116.trans k)
    exact own_sglcD l Z a0 hw hst p0 p1 p2 dv pd h0 n0 a4 ua v7 v8 (1 : Int32) (101 : Int32) oo101 ou101 hx hby hret hlk hml hnm hS0 hh hZ hown (X116.wide (L' := _) (cells' := 11) (slots' := 190) (fun x hx _ => hx) (by decide) (by decide)) hh116 (Nat.le_trans hk0 K101.1) Ch101 N116 Xo101 KK101 hR F118 g101_0 (Or.inr (Or.inl ⟨rfl, rfl⟩))
  · skip
    subst hcv104_2
    refine own_to (V := T101.setTop (mkF m 127 #[sI p0, sI p1, sI p2, sI 0, sR a4, sR dv, sI 11, sI v7, sI v8, sI 2, sR oo101, .unset, .unset] [(.int 2), (.ref a4), (.int v8)])) ?_ fun t k => (by
      refine XS.iload X101.here hx rfl (hb hby at_121) rfl ?_
      refine XS.aload X101.here hx rfl (hb hby at_123) rfl rfl ?_
      refine XS.iload X101.here hx rfl (hb hby at_125) rfl ?_
      exact k)
    have F121 := (hS.keep K101 List.not_mem_nil List.not_mem_nil)
    obtain ⟨sN120, sk120, sv120, sE120, sV120, sC120, sK120, sc120, sb120, sl120⟩ := own_Str.latin F121 (own_lat2 (own_allS (by decide) (own_allS (by decide) (own_allS (by decide) (own_allS (by decide) (own_allS (by decide) (own_allS (by decide) (own_allS (by decide) (own_allS (by decide) (own_allS (by decide) (own_allS (by decide) (own_allS (by decide) own_all0))))))))))))
    obtain ⟨cq119, kq119, q119a, q119b, q119c⟩ := isOf hZ e101 F121.1
    obtain ⟨_, _, ⟨T119, L119, k119, n119⟩, -, X119, ⟨Lc119, hQ119, l119, y119, z119⟩, st119⟩ := X101.virtualBack hx (y := own_mn2) (z := own_mn2) hown (mvT hZ (own_i hw 33 rfl)) (mvT hZ (own_i hw 34 rfl)) (notFace_of_selects (args := #[]) (mvT hZ (own_i hw 36 rfl))) (mvT hZ (own_i hw 36 rfl)) (mvT hZ (own_i hw 35 rfl)) (by decide) (StrChars.Road.chN (W := 1) hZ (own_hch hw) (kI := 4) (own_i hw 2 rfl) sE120 sV120 sC120 sK120 sc120 sb120 (O2.ext Xo101.2) P5 (O4.ext Xo101.2) rG3 sl120 (i := 2) (Nat.le_of_ble_eq_true rfl) (j := (2 : Int32)) rfl (by decide) (by decide)) q119a q119c (g := (mkF m 127 #[sI p0, sI p1, sI p2, sI 0, sR a4, sR dv, sI 11, sI v7, sI v8, sI 2, sR oo101, .unset, .unset] [(.int 2), (.ref a4), (.int v8)])) rfl (by rw [hml]; rfl) (Steps.refl _) (argsL := [(.int 2)]) (rest := [(.int v8)]) (lenOf own_pd1 rfl) rfl (by show 2 * 0 + _ ≤ _; exact Nat.le_of_eq rfl) (hb hby at_127) (fun _ _ => ⟨rfl, e101, (by decide : 5 + 0 ≤ _), (by decide : 76 + 0 ≤ _)⟩)
    dsimp only [own_R, Pt.U, Pt.locs, Pt.cells, Pt.slots] at X119 l119 y119 z119 st119 hQ119
    subst y119 z119
    obtain ⟨hv119, hL119, hh119⟩ := hQ119
    subst hL119
    have N119 : Fr n0 L119 := by rw [l119]; exact Fr.app N101 (Fr.nil n0)
    subst hv119
    refine own_to ?_ (fun t k => st119.trans k)
    exact own_sglcD l Z a0 hw hst p0 p1 p2 dv pd h0 n0 a4 ua v7 v8 (2 : Int32) (118 : Int32) oo101 ou101 hx hby hret hlk hml hnm hS0 hh hZ hown (X119.wide (L' := _) (cells' := 11) (slots' := 190) (fun x hx _ => hx) (by decide) (by decide)) hh119 (Nat.le_trans hk0 K101.1) Ch101 N119 Xo101 KK101 hR F121 g101_0 (Or.inr (Or.inr (Or.inl ⟨rfl, rfl⟩)))
  · skip
    subst hcv105_3
    refine own_to (V := T101.setTop (mkF m 127 #[sI p0, sI p1, sI p2, sI 0, sR a4, sR dv, sI 11, sI v7, sI v8, sI 3, sR oo101, .unset, .unset] [(.int 3), (.ref a4), (.int v8)])) ?_ fun t k => (by
      refine XS.iload X101.here hx rfl (hb hby at_121) rfl ?_
      refine XS.aload X101.here hx rfl (hb hby at_123) rfl rfl ?_
      refine XS.iload X101.here hx rfl (hb hby at_125) rfl ?_
      exact k)
    have F124 := (hS.keep K101 List.not_mem_nil List.not_mem_nil)
    obtain ⟨sN123, sk123, sv123, sE123, sV123, sC123, sK123, sc123, sb123, sl123⟩ := own_Str.latin F124 (own_lat2 (own_allS (by decide) (own_allS (by decide) (own_allS (by decide) (own_allS (by decide) (own_allS (by decide) (own_allS (by decide) (own_allS (by decide) (own_allS (by decide) (own_allS (by decide) (own_allS (by decide) (own_allS (by decide) own_all0))))))))))))
    obtain ⟨cq122, kq122, q122a, q122b, q122c⟩ := isOf hZ e101 F124.1
    obtain ⟨_, _, ⟨T122, L122, k122, n122⟩, -, X122, ⟨Lc122, hQ122, l122, y122, z122⟩, st122⟩ := X101.virtualBack hx (y := own_mn2) (z := own_mn2) hown (mvT hZ (own_i hw 33 rfl)) (mvT hZ (own_i hw 34 rfl)) (notFace_of_selects (args := #[]) (mvT hZ (own_i hw 36 rfl))) (mvT hZ (own_i hw 36 rfl)) (mvT hZ (own_i hw 35 rfl)) (by decide) (StrChars.Road.chN (W := 1) hZ (own_hch hw) (kI := 4) (own_i hw 2 rfl) sE123 sV123 sC123 sK123 sc123 sb123 (O2.ext Xo101.2) P5 (O4.ext Xo101.2) rG3 sl123 (i := 3) (Nat.le_of_ble_eq_true rfl) (j := (3 : Int32)) rfl (by decide) (by decide)) q122a q122c (g := (mkF m 127 #[sI p0, sI p1, sI p2, sI 0, sR a4, sR dv, sI 11, sI v7, sI v8, sI 3, sR oo101, .unset, .unset] [(.int 3), (.ref a4), (.int v8)])) rfl (by rw [hml]; rfl) (Steps.refl _) (argsL := [(.int 3)]) (rest := [(.int v8)]) (lenOf own_pd1 rfl) rfl (by show 2 * 0 + _ ≤ _; exact Nat.le_of_eq rfl) (hb hby at_127) (fun _ _ => ⟨rfl, e101, (by decide : 5 + 0 ≤ _), (by decide : 76 + 0 ≤ _)⟩)
    dsimp only [own_R, Pt.U, Pt.locs, Pt.cells, Pt.slots] at X122 l122 y122 z122 st122 hQ122
    subst y122 z122
    obtain ⟨hv122, hL122, hh122⟩ := hQ122
    subst hL122
    have N122 : Fr n0 L122 := by rw [l122]; exact Fr.app N101 (Fr.nil n0)
    subst hv122
    refine own_to ?_ (fun t k => st122.trans k)
    exact own_sglcD l Z a0 hw hst p0 p1 p2 dv pd h0 n0 a4 ua v7 v8 (3 : Int32) (101 : Int32) oo101 ou101 hx hby hret hlk hml hnm hS0 hh hZ hown (X122.wide (L' := _) (cells' := 11) (slots' := 190) (fun x hx _ => hx) (by decide) (by decide)) hh122 (Nat.le_trans hk0 K101.1) Ch101 N122 Xo101 KK101 hR F124 g101_0 (Or.inr (Or.inr (Or.inr (Or.inl ⟨rfl, rfl⟩))))
  · skip
    subst hcv106_4
    refine own_to (V := T101.setTop (mkF m 127 #[sI p0, sI p1, sI p2, sI 0, sR a4, sR dv, sI 11, sI v7, sI v8, sI 4, sR oo101, .unset, .unset] [(.int 4), (.ref a4), (.int v8)])) ?_ fun t k => (by
      refine XS.iload X101.here hx rfl (hb hby at_121) rfl ?_
      refine XS.aload X101.here hx rfl (hb hby at_123) rfl rfl ?_
      refine XS.iload X101.here hx rfl (hb hby at_125) rfl ?_
      exact k)
    have F127 := (hS.keep K101 List.not_mem_nil List.not_mem_nil)
    obtain ⟨sN126, sk126, sv126, sE126, sV126, sC126, sK126, sc126, sb126, sl126⟩ := own_Str.latin F127 (own_lat2 (own_allS (by decide) (own_allS (by decide) (own_allS (by decide) (own_allS (by decide) (own_allS (by decide) (own_allS (by decide) (own_allS (by decide) (own_allS (by decide) (own_allS (by decide) (own_allS (by decide) (own_allS (by decide) own_all0))))))))))))
    obtain ⟨cq125, kq125, q125a, q125b, q125c⟩ := isOf hZ e101 F127.1
    obtain ⟨_, _, ⟨T125, L125, k125, n125⟩, -, X125, ⟨Lc125, hQ125, l125, y125, z125⟩, st125⟩ := X101.virtualBack hx (y := own_mn2) (z := own_mn2) hown (mvT hZ (own_i hw 33 rfl)) (mvT hZ (own_i hw 34 rfl)) (notFace_of_selects (args := #[]) (mvT hZ (own_i hw 36 rfl))) (mvT hZ (own_i hw 36 rfl)) (mvT hZ (own_i hw 35 rfl)) (by decide) (StrChars.Road.chN (W := 1) hZ (own_hch hw) (kI := 4) (own_i hw 2 rfl) sE126 sV126 sC126 sK126 sc126 sb126 (O2.ext Xo101.2) P5 (O4.ext Xo101.2) rG3 sl126 (i := 4) (Nat.le_of_ble_eq_true rfl) (j := (4 : Int32)) rfl (by decide) (by decide)) q125a q125c (g := (mkF m 127 #[sI p0, sI p1, sI p2, sI 0, sR a4, sR dv, sI 11, sI v7, sI v8, sI 4, sR oo101, .unset, .unset] [(.int 4), (.ref a4), (.int v8)])) rfl (by rw [hml]; rfl) (Steps.refl _) (argsL := [(.int 4)]) (rest := [(.int v8)]) (lenOf own_pd1 rfl) rfl (by show 2 * 0 + _ ≤ _; exact Nat.le_of_eq rfl) (hb hby at_127) (fun _ _ => ⟨rfl, e101, (by decide : 5 + 0 ≤ _), (by decide : 76 + 0 ≤ _)⟩)
    dsimp only [own_R, Pt.U, Pt.locs, Pt.cells, Pt.slots] at X125 l125 y125 z125 st125 hQ125
    subst y125 z125
    obtain ⟨hv125, hL125, hh125⟩ := hQ125
    subst hL125
    have N125 : Fr n0 L125 := by rw [l125]; exact Fr.app N101 (Fr.nil n0)
    subst hv125
    refine own_to ?_ (fun t k => st125.trans k)
    exact own_sglcD l Z a0 hw hst p0 p1 p2 dv pd h0 n0 a4 ua v7 v8 (4 : Int32) (108 : Int32) oo101 ou101 hx hby hret hlk hml hnm hS0 hh hZ hown (X125.wide (L' := _) (cells' := 11) (slots' := 190) (fun x hx _ => hx) (by decide) (by decide)) hh125 (Nat.le_trans hk0 K101.1) Ch101 N125 Xo101 KK101 hR F127 g101_0 (Or.inr (Or.inr (Or.inr (Or.inr (Or.inl ⟨rfl, rfl⟩)))))
  · skip
    subst hcv107_5
    refine own_to (V := T101.setTop (mkF m 127 #[sI p0, sI p1, sI p2, sI 0, sR a4, sR dv, sI 11, sI v7, sI v8, sI 5, sR oo101, .unset, .unset] [(.int 5), (.ref a4), (.int v8)])) ?_ fun t k => (by
      refine XS.iload X101.here hx rfl (hb hby at_121) rfl ?_
      refine XS.aload X101.here hx rfl (hb hby at_123) rfl rfl ?_
      refine XS.iload X101.here hx rfl (hb hby at_125) rfl ?_
      exact k)
    have F130 := (hS.keep K101 List.not_mem_nil List.not_mem_nil)
    obtain ⟨sN129, sk129, sv129, sE129, sV129, sC129, sK129, sc129, sb129, sl129⟩ := own_Str.latin F130 (own_lat2 (own_allS (by decide) (own_allS (by decide) (own_allS (by decide) (own_allS (by decide) (own_allS (by decide) (own_allS (by decide) (own_allS (by decide) (own_allS (by decide) (own_allS (by decide) (own_allS (by decide) (own_allS (by decide) own_all0))))))))))))
    obtain ⟨cq128, kq128, q128a, q128b, q128c⟩ := isOf hZ e101 F130.1
    obtain ⟨_, _, ⟨T128, L128, k128, n128⟩, -, X128, ⟨Lc128, hQ128, l128, y128, z128⟩, st128⟩ := X101.virtualBack hx (y := own_mn2) (z := own_mn2) hown (mvT hZ (own_i hw 33 rfl)) (mvT hZ (own_i hw 34 rfl)) (notFace_of_selects (args := #[]) (mvT hZ (own_i hw 36 rfl))) (mvT hZ (own_i hw 36 rfl)) (mvT hZ (own_i hw 35 rfl)) (by decide) (StrChars.Road.chN (W := 1) hZ (own_hch hw) (kI := 4) (own_i hw 2 rfl) sE129 sV129 sC129 sK129 sc129 sb129 (O2.ext Xo101.2) P5 (O4.ext Xo101.2) rG3 sl129 (i := 5) (Nat.le_of_ble_eq_true rfl) (j := (5 : Int32)) rfl (by decide) (by decide)) q128a q128c (g := (mkF m 127 #[sI p0, sI p1, sI p2, sI 0, sR a4, sR dv, sI 11, sI v7, sI v8, sI 5, sR oo101, .unset, .unset] [(.int 5), (.ref a4), (.int v8)])) rfl (by rw [hml]; rfl) (Steps.refl _) (argsL := [(.int 5)]) (rest := [(.int v8)]) (lenOf own_pd1 rfl) rfl (by show 2 * 0 + _ ≤ _; exact Nat.le_of_eq rfl) (hb hby at_127) (fun _ _ => ⟨rfl, e101, (by decide : 5 + 0 ≤ _), (by decide : 76 + 0 ≤ _)⟩)
    dsimp only [own_R, Pt.U, Pt.locs, Pt.cells, Pt.slots] at X128 l128 y128 z128 st128 hQ128
    subst y128 z128
    obtain ⟨hv128, hL128, hh128⟩ := hQ128
    subst hL128
    have N128 : Fr n0 L128 := by rw [l128]; exact Fr.app N101 (Fr.nil n0)
    subst hv128
    refine own_to ?_ (fun t k => st128.trans k)
    exact own_sglcD l Z a0 hw hst p0 p1 p2 dv pd h0 n0 a4 ua v7 v8 (5 : Int32) (111 : Int32) oo101 ou101 hx hby hret hlk hml hnm hS0 hh hZ hown (X128.wide (L' := _) (cells' := 11) (slots' := 190) (fun x hx _ => hx) (by decide) (by decide)) hh128 (Nat.le_trans hk0 K101.1) Ch101 N128 Xo101 KK101 hR F130 g101_0 (Or.inr (Or.inr (Or.inr (Or.inr (Or.inr (Or.inl ⟨rfl, rfl⟩))))))
  · skip
    subst hcv108_6
    refine own_to (V := T101.setTop (mkF m 127 #[sI p0, sI p1, sI p2, sI 0, sR a4, sR dv, sI 11, sI v7, sI v8, sI 6, sR oo101, .unset, .unset] [(.int 6), (.ref a4), (.int v8)])) ?_ fun t k => (by
      refine XS.iload X101.here hx rfl (hb hby at_121) rfl ?_
      refine XS.aload X101.here hx rfl (hb hby at_123) rfl rfl ?_
      refine XS.iload X101.here hx rfl (hb hby at_125) rfl ?_
      exact k)
    have F133 := (hS.keep K101 List.not_mem_nil List.not_mem_nil)
    obtain ⟨sN132, sk132, sv132, sE132, sV132, sC132, sK132, sc132, sb132, sl132⟩ := own_Str.latin F133 (own_lat2 (own_allS (by decide) (own_allS (by decide) (own_allS (by decide) (own_allS (by decide) (own_allS (by decide) (own_allS (by decide) (own_allS (by decide) (own_allS (by decide) (own_allS (by decide) (own_allS (by decide) (own_allS (by decide) own_all0))))))))))))
    obtain ⟨cq131, kq131, q131a, q131b, q131c⟩ := isOf hZ e101 F133.1
    obtain ⟨_, _, ⟨T131, L131, k131, n131⟩, -, X131, ⟨Lc131, hQ131, l131, y131, z131⟩, st131⟩ := X101.virtualBack hx (y := own_mn2) (z := own_mn2) hown (mvT hZ (own_i hw 33 rfl)) (mvT hZ (own_i hw 34 rfl)) (notFace_of_selects (args := #[]) (mvT hZ (own_i hw 36 rfl))) (mvT hZ (own_i hw 36 rfl)) (mvT hZ (own_i hw 35 rfl)) (by decide) (StrChars.Road.chN (W := 1) hZ (own_hch hw) (kI := 4) (own_i hw 2 rfl) sE132 sV132 sC132 sK132 sc132 sb132 (O2.ext Xo101.2) P5 (O4.ext Xo101.2) rG3 sl132 (i := 6) (Nat.le_of_ble_eq_true rfl) (j := (6 : Int32)) rfl (by decide) (by decide)) q131a q131c (g := (mkF m 127 #[sI p0, sI p1, sI p2, sI 0, sR a4, sR dv, sI 11, sI v7, sI v8, sI 6, sR oo101, .unset, .unset] [(.int 6), (.ref a4), (.int v8)])) rfl (by rw [hml]; rfl) (Steps.refl _) (argsL := [(.int 6)]) (rest := [(.int v8)]) (lenOf own_pd1 rfl) rfl (by show 2 * 0 + _ ≤ _; exact Nat.le_of_eq rfl) (hb hby at_127) (fun _ _ => ⟨rfl, e101, (by decide : 5 + 0 ≤ _), (by decide : 76 + 0 ≤ _)⟩)
    dsimp only [own_R, Pt.U, Pt.locs, Pt.cells, Pt.slots] at X131 l131 y131 z131 st131 hQ131
    subst y131 z131
    obtain ⟨hv131, hL131, hh131⟩ := hQ131
    subst hL131
    have N131 : Fr n0 L131 := by rw [l131]; exact Fr.app N101 (Fr.nil n0)
    subst hv131
    refine own_to ?_ (fun t k => st131.trans k)
    exact own_sglcD l Z a0 hw hst p0 p1 p2 dv pd h0 n0 a4 ua v7 v8 (6 : Int32) (112 : Int32) oo101 ou101 hx hby hret hlk hml hnm hS0 hh hZ hown (X131.wide (L' := _) (cells' := 11) (slots' := 190) (fun x hx _ => hx) (by decide) (by decide)) hh131 (Nat.le_trans hk0 K101.1) Ch101 N131 Xo101 KK101 hR F133 g101_0 (Or.inr (Or.inr (Or.inr (Or.inr (Or.inr (Or.inr (Or.inl ⟨rfl, rfl⟩)))))))
  · skip
    subst hcv109_7
    refine own_to (V := T101.setTop (mkF m 127 #[sI p0, sI p1, sI p2, sI 0, sR a4, sR dv, sI 11, sI v7, sI v8, sI 7, sR oo101, .unset, .unset] [(.int 7), (.ref a4), (.int v8)])) ?_ fun t k => (by
      refine XS.iload X101.here hx rfl (hb hby at_121) rfl ?_
      refine XS.aload X101.here hx rfl (hb hby at_123) rfl rfl ?_
      refine XS.iload X101.here hx rfl (hb hby at_125) rfl ?_
      exact k)
    have F136 := (hS.keep K101 List.not_mem_nil List.not_mem_nil)
    obtain ⟨sN135, sk135, sv135, sE135, sV135, sC135, sK135, sc135, sb135, sl135⟩ := own_Str.latin F136 (own_lat2 (own_allS (by decide) (own_allS (by decide) (own_allS (by decide) (own_allS (by decide) (own_allS (by decide) (own_allS (by decide) (own_allS (by decide) (own_allS (by decide) (own_allS (by decide) (own_allS (by decide) (own_allS (by decide) own_all0))))))))))))
    obtain ⟨cq134, kq134, q134a, q134b, q134c⟩ := isOf hZ e101 F136.1
    obtain ⟨_, _, ⟨T134, L134, k134, n134⟩, -, X134, ⟨Lc134, hQ134, l134, y134, z134⟩, st134⟩ := X101.virtualBack hx (y := own_mn2) (z := own_mn2) hown (mvT hZ (own_i hw 33 rfl)) (mvT hZ (own_i hw 34 rfl)) (notFace_of_selects (args := #[]) (mvT hZ (own_i hw 36 rfl))) (mvT hZ (own_i hw 36 rfl)) (mvT hZ (own_i hw 35 rfl)) (by decide) (StrChars.Road.chN (W := 1) hZ (own_hch hw) (kI := 4) (own_i hw 2 rfl) sE135 sV135 sC135 sK135 sc135 sb135 (O2.ext Xo101.2) P5 (O4.ext Xo101.2) rG3 sl135 (i := 7) (Nat.le_of_ble_eq_true rfl) (j := (7 : Int32)) rfl (by decide) (by decide)) q134a q134c (g := (mkF m 127 #[sI p0, sI p1, sI p2, sI 0, sR a4, sR dv, sI 11, sI v7, sI v8, sI 7, sR oo101, .unset, .unset] [(.int 7), (.ref a4), (.int v8)])) rfl (by rw [hml]; rfl) (Steps.refl _) (argsL := [(.int 7)]) (rest := [(.int v8)]) (lenOf own_pd1 rfl) rfl (by show 2 * 0 + _ ≤ _; exact Nat.le_of_eq rfl) (hb hby at_127) (fun _ _ => ⟨rfl, e101, (by decide : 5 + 0 ≤ _), (by decide : 76 + 0 ≤ _)⟩)
    dsimp only [own_R, Pt.U, Pt.locs, Pt.cells, Pt.slots] at X134 l134 y134 z134 st134 hQ134
    subst y134 z134
    obtain ⟨hv134, hL134, hh134⟩ := hQ134
    subst hL134
    have N134 : Fr n0 L134 := by rw [l134]; exact Fr.app N101 (Fr.nil n0)
    subst hv134
    refine own_to ?_ (fun t k => st134.trans k)
    exact own_sglcD l Z a0 hw hst p0 p1 p2 dv pd h0 n0 a4 ua v7 v8 (7 : Int32) (109 : Int32) oo101 ou101 hx hby hret hlk hml hnm hS0 hh hZ hown (X134.wide (L' := _) (cells' := 11) (slots' := 190) (fun x hx _ => hx) (by decide) (by decide)) hh134 (Nat.le_trans hk0 K101.1) Ch101 N134 Xo101 KK101 hR F136 g101_0 (Or.inr (Or.inr (Or.inr (Or.inr (Or.inr (Or.inr (Or.inr (Or.inl ⟨rfl, rfl⟩))))))))
  · skip
    subst hcv110_8
    refine own_to (V := T101.setTop (mkF m 127 #[sI p0, sI p1, sI p2, sI 0, sR a4, sR dv, sI 11, sI v7, sI v8, sI 8, sR oo101, .unset, .unset] [(.int 8), (.ref a4), (.int v8)])) ?_ fun t k => (by
      refine XS.iload X101.here hx rfl (hb hby at_121) rfl ?_
      refine XS.aload X101.here hx rfl (hb hby at_123) rfl rfl ?_
      refine XS.iload X101.here hx rfl (hb hby at_125) rfl ?_
      exact k)
    have F139 := (hS.keep K101 List.not_mem_nil List.not_mem_nil)
    obtain ⟨sN138, sk138, sv138, sE138, sV138, sC138, sK138, sc138, sb138, sl138⟩ := own_Str.latin F139 (own_lat2 (own_allS (by decide) (own_allS (by decide) (own_allS (by decide) (own_allS (by decide) (own_allS (by decide) (own_allS (by decide) (own_allS (by decide) (own_allS (by decide) (own_allS (by decide) (own_allS (by decide) (own_allS (by decide) own_all0))))))))))))
    obtain ⟨cq137, kq137, q137a, q137b, q137c⟩ := isOf hZ e101 F139.1
    obtain ⟨_, _, ⟨T137, L137, k137, n137⟩, -, X137, ⟨Lc137, hQ137, l137, y137, z137⟩, st137⟩ := X101.virtualBack hx (y := own_mn2) (z := own_mn2) hown (mvT hZ (own_i hw 33 rfl)) (mvT hZ (own_i hw 34 rfl)) (notFace_of_selects (args := #[]) (mvT hZ (own_i hw 36 rfl))) (mvT hZ (own_i hw 36 rfl)) (mvT hZ (own_i hw 35 rfl)) (by decide) (StrChars.Road.chN (W := 1) hZ (own_hch hw) (kI := 4) (own_i hw 2 rfl) sE138 sV138 sC138 sK138 sc138 sb138 (O2.ext Xo101.2) P5 (O4.ext Xo101.2) rG3 sl138 (i := 8) (Nat.le_of_ble_eq_true rfl) (j := (8 : Int32)) rfl (by decide) (by decide)) q137a q137c (g := (mkF m 127 #[sI p0, sI p1, sI p2, sI 0, sR a4, sR dv, sI 11, sI v7, sI v8, sI 8, sR oo101, .unset, .unset] [(.int 8), (.ref a4), (.int v8)])) rfl (by rw [hml]; rfl) (Steps.refl _) (argsL := [(.int 8)]) (rest := [(.int v8)]) (lenOf own_pd1 rfl) rfl (by show 2 * 0 + _ ≤ _; exact Nat.le_of_eq rfl) (hb hby at_127) (fun _ _ => ⟨rfl, e101, (by decide : 5 + 0 ≤ _), (by decide : 76 + 0 ≤ _)⟩)
    dsimp only [own_R, Pt.U, Pt.locs, Pt.cells, Pt.slots] at X137 l137 y137 z137 st137 hQ137
    subst y137 z137
    obtain ⟨hv137, hL137, hh137⟩ := hQ137
    subst hL137
    have N137 : Fr n0 L137 := by rw [l137]; exact Fr.app N101 (Fr.nil n0)
    subst hv137
    refine own_to ?_ (fun t k => st137.trans k)
    exact own_sglcD l Z a0 hw hst p0 p1 p2 dv pd h0 n0 a4 ua v7 v8 (8 : Int32) (101 : Int32) oo101 ou101 hx hby hret hlk hml hnm hS0 hh hZ hown (X137.wide (L' := _) (cells' := 11) (slots' := 190) (fun x hx _ => hx) (by decide) (by decide)) hh137 (Nat.le_trans hk0 K101.1) Ch101 N137 Xo101 KK101 hR F139 g101_0 (Or.inr (Or.inr (Or.inr (Or.inr (Or.inr (Or.inr (Or.inr (Or.inr (Or.inl ⟨rfl, rfl⟩)))))))))
  · skip
    subst hcv111_9
    refine own_to (V := T101.setTop (mkF m 127 #[sI p0, sI p1, sI p2, sI 0, sR a4, sR dv, sI 11, sI v7, sI v8, sI 9, sR oo101, .unset, .unset] [(.int 9), (.ref a4), (.int v8)])) ?_ fun t k => (by
      refine XS.iload X101.here hx rfl (hb hby at_121) rfl ?_
      refine XS.aload X101.here hx rfl (hb hby at_123) rfl rfl ?_
      refine XS.iload X101.here hx rfl (hb hby at_125) rfl ?_
      exact k)
    have F142 := (hS.keep K101 List.not_mem_nil List.not_mem_nil)
    obtain ⟨sN141, sk141, sv141, sE141, sV141, sC141, sK141, sc141, sb141, sl141⟩ := own_Str.latin F142 (own_lat2 (own_allS (by decide) (own_allS (by decide) (own_allS (by decide) (own_allS (by decide) (own_allS (by decide) (own_allS (by decide) (own_allS (by decide) (own_allS (by decide) (own_allS (by decide) (own_allS (by decide) (own_allS (by decide) own_all0))))))))))))
    obtain ⟨cq140, kq140, q140a, q140b, q140c⟩ := isOf hZ e101 F142.1
    obtain ⟨_, _, ⟨T140, L140, k140, n140⟩, -, X140, ⟨Lc140, hQ140, l140, y140, z140⟩, st140⟩ := X101.virtualBack hx (y := own_mn2) (z := own_mn2) hown (mvT hZ (own_i hw 33 rfl)) (mvT hZ (own_i hw 34 rfl)) (notFace_of_selects (args := #[]) (mvT hZ (own_i hw 36 rfl))) (mvT hZ (own_i hw 36 rfl)) (mvT hZ (own_i hw 35 rfl)) (by decide) (StrChars.Road.chN (W := 1) hZ (own_hch hw) (kI := 4) (own_i hw 2 rfl) sE141 sV141 sC141 sK141 sc141 sb141 (O2.ext Xo101.2) P5 (O4.ext Xo101.2) rG3 sl141 (i := 9) (Nat.le_of_ble_eq_true rfl) (j := (9 : Int32)) rfl (by decide) (by decide)) q140a q140c (g := (mkF m 127 #[sI p0, sI p1, sI p2, sI 0, sR a4, sR dv, sI 11, sI v7, sI v8, sI 9, sR oo101, .unset, .unset] [(.int 9), (.ref a4), (.int v8)])) rfl (by rw [hml]; rfl) (Steps.refl _) (argsL := [(.int 9)]) (rest := [(.int v8)]) (lenOf own_pd1 rfl) rfl (by show 2 * 0 + _ ≤ _; exact Nat.le_of_eq rfl) (hb hby at_127) (fun _ _ => ⟨rfl, e101, (by decide : 5 + 0 ≤ _), (by decide : 76 + 0 ≤ _)⟩)
    dsimp only [own_R, Pt.U, Pt.locs, Pt.cells, Pt.slots] at X140 l140 y140 z140 st140 hQ140
    subst y140 z140
    obtain ⟨hv140, hL140, hh140⟩ := hQ140
    subst hL140
    have N140 : Fr n0 L140 := by rw [l140]; exact Fr.app N101 (Fr.nil n0)
    subst hv140
    refine own_to ?_ (fun t k => st140.trans k)
    exact own_sglcD l Z a0 hw hst p0 p1 p2 dv pd h0 n0 a4 ua v7 v8 (9 : Int32) (110 : Int32) oo101 ou101 hx hby hret hlk hml hnm hS0 hh hZ hown (X140.wide (L' := _) (cells' := 11) (slots' := 190) (fun x hx _ => hx) (by decide) (by decide)) hh140 (Nat.le_trans hk0 K101.1) Ch101 N140 Xo101 KK101 hR F142 g101_0 (Or.inr (Or.inr (Or.inr (Or.inr (Or.inr (Or.inr (Or.inr (Or.inr (Or.inr (Or.inl ⟨rfl, rfl⟩))))))))))
  · skip
    subst hcv112_10
    refine own_to (V := T101.setTop (mkF m 127 #[sI p0, sI p1, sI p2, sI 0, sR a4, sR dv, sI 11, sI v7, sI v8, sI 10, sR oo101, .unset, .unset] [(.int 10), (.ref a4), (.int v8)])) ?_ fun t k => (by
      refine XS.iload X101.here hx rfl (hb hby at_121) rfl ?_
      refine XS.aload X101.here hx rfl (hb hby at_123) rfl rfl ?_
      refine XS.iload X101.here hx rfl (hb hby at_125) rfl ?_
      exact k)
    have F145 := (hS.keep K101 List.not_mem_nil List.not_mem_nil)
    obtain ⟨sN144, sk144, sv144, sE144, sV144, sC144, sK144, sc144, sb144, sl144⟩ := own_Str.latin F145 (own_lat2 (own_allS (by decide) (own_allS (by decide) (own_allS (by decide) (own_allS (by decide) (own_allS (by decide) (own_allS (by decide) (own_allS (by decide) (own_allS (by decide) (own_allS (by decide) (own_allS (by decide) (own_allS (by decide) own_all0))))))))))))
    obtain ⟨cq143, kq143, q143a, q143b, q143c⟩ := isOf hZ e101 F145.1
    obtain ⟨_, _, ⟨T143, L143, k143, n143⟩, -, X143, ⟨Lc143, hQ143, l143, y143, z143⟩, st143⟩ := X101.virtualBack hx (y := own_mn2) (z := own_mn2) hown (mvT hZ (own_i hw 33 rfl)) (mvT hZ (own_i hw 34 rfl)) (notFace_of_selects (args := #[]) (mvT hZ (own_i hw 36 rfl))) (mvT hZ (own_i hw 36 rfl)) (mvT hZ (own_i hw 35 rfl)) (by decide) (StrChars.Road.chN (W := 1) hZ (own_hch hw) (kI := 4) (own_i hw 2 rfl) sE144 sV144 sC144 sK144 sc144 sb144 (O2.ext Xo101.2) P5 (O4.ext Xo101.2) rG3 sl144 (i := 10) (Nat.le_of_ble_eq_true rfl) (j := (10 : Int32)) rfl (by decide) (by decide)) q143a q143c (g := (mkF m 127 #[sI p0, sI p1, sI p2, sI 0, sR a4, sR dv, sI 11, sI v7, sI v8, sI 10, sR oo101, .unset, .unset] [(.int 10), (.ref a4), (.int v8)])) rfl (by rw [hml]; rfl) (Steps.refl _) (argsL := [(.int 10)]) (rest := [(.int v8)]) (lenOf own_pd1 rfl) rfl (by show 2 * 0 + _ ≤ _; exact Nat.le_of_eq rfl) (hb hby at_127) (fun _ _ => ⟨rfl, e101, (by decide : 5 + 0 ≤ _), (by decide : 76 + 0 ≤ _)⟩)
    dsimp only [own_R, Pt.U, Pt.locs, Pt.cells, Pt.slots] at X143 l143 y143 z143 st143 hQ143
    subst y143 z143
    obtain ⟨hv143, hL143, hh143⟩ := hQ143
    subst hL143
    have N143 : Fr n0 L143 := by rw [l143]; exact Fr.app N101 (Fr.nil n0)
    subst hv143
    refine own_to ?_ (fun t k => st143.trans k)
    exact own_sglcD l Z a0 hw hst p0 p1 p2 dv pd h0 n0 a4 ua v7 v8 (10 : Int32) (116 : Int32) oo101 ou101 hx hby hret hlk hml hnm hS0 hh hZ hown (X143.wide (L' := _) (cells' := 11) (slots' := 190) (fun x hx _ => hx) (by decide) (by decide)) hh143 (Nat.le_trans hk0 K101.1) Ch101 N143 Xo101 KK101 hR F145 g101_0 (Or.inr (Or.inr (Or.inr (Or.inr (Or.inr (Or.inr (Or.inr (Or.inr (Or.inr (Or.inr ⟨rfl, rfl⟩))))))))))
set_option maxRecDepth 65536 in
set_option maxHeartbeats 40000000 in
theorem own_sglfD (l : Launch) (Z : State) (a0 : Array Value) (hw : ∀ d ∈ tables_1, d.before a0 Z = true) (hst : own_St Z) (p0 : Int32) (p1 : Int32) (p2 : Int32) (dv : Addr) (pd : Addr) (h0 : Heap) (n0 : Nat) (a4 : Addr) (ua : Addr) (v7 : Int32) (v8 : Int32) (v9 : Int32) (v12 : Int32)
    {p : Program} {e : Env} {s : State} {m : MethodId} {args : Array Value} {below : List Frame} {meth : Method} {c : Code} (hx : p.tables.exec = Jvm.exec) (hby : c.code = code) (hret : meth.sig.returnType = ret) (hlk : meth.locks = false) (hml : c.maxLocals = 13) (hnm : meth.name = "law") {vm0 : Vm} {k0 : Nat} (hS0 : s.Since vm0 k0) (hh : s.heap = h0) (hZ : Z.Warmed39 (s.setVm vm0).vm) (hown : (s.setVm vm0).vm.findClass "com/example/tallowlark/tallowlark/server/StageFromArgumentPinLaw" = some m.cls)
    {T0 : State} {locs : List Loc} {h : Heap} (X0 : Stand p l e room_1 (s.setVm vm0) m args below meth c T0 locs 2 50) (e0 : T0.heap = h) (hk0 : k0 ≤ h.size) (Ch0 : CHr Z consts_1 s.vm h0 vm0 h) (N0 : Fr n0 locs) (Xo0 : Old Z n0 h) (KK0 : Keep h0 h []) (hR : own_Stg Z dv pd) (hS : own_Str Z h a4 ua ([(68 : Int32), (101 : Int32), (118 : Int32), (101 : Int32), (108 : Int32), (111 : Int32), (112 : Int32), (109 : Int32), (101 : Int32), (110 : Int32), (116 : Int32)] : List Int32)) (hd : (v9 = (0 : Int32) ∧ v12 = (100 : Int32)) ∨ (v9 = (1 : Int32) ∧ v12 = (69 : Int32)) ∨ (v9 = (2 : Int32) ∧ v12 = (86 : Int32)) ∨ (v9 = (3 : Int32) ∧ v12 = (69 : Int32)) ∨ (v9 = (4 : Int32) ∧ v12 = (76 : Int32)) ∨ (v9 = (5 : Int32) ∧ v12 = (79 : Int32)) ∨ (v9 = (6 : Int32) ∧ v12 = (80 : Int32)) ∨ (v9 = (7 : Int32) ∧ v12 = (77 : Int32)) ∨ (v9 = (8 : Int32) ∧ v12 = (69 : Int32)) ∨ (v9 = (9 : Int32) ∧ v12 = (78 : Int32)) ∨ (v9 = (10 : Int32) ∧ v12 = (84 : Int32))) :
    own_Go p e below (own_PostH Z s (own_Qlaw Z p0 p1 p2 dv pd h0 n0) room_1.cells room_1.slots) (T0.setTop (mkF m 241 #[sI p0, sI p1, sI p2, sI 0, sR a4, sR dv, sI 11, sI v7, sI v8, sI v9, .unset, .unset, sI v12] [])) := by
  obtain ⟨⟨G1, O2, P5⟩, ⟨G3, O4, rG3⟩, -⟩ := id hst
  obtain ⟨oD, oP, eD, eP, va, kV, sd, ud, sp, up, oV, eV, aV, fD, fP, sD, sP⟩ := id hR
  have rb_v12 : ¬ v12 < 0 ∧ ¬ (255 : Int32) < v12 := own_frD hd
  refine own_to (V := T0.setTop (mkF m 249 #[sI p0, sI p1, sI p2, sI 0, sR a4, sR dv, sI 11, sI v7, sI v8, sI v9, .unset, .unset, sI v12] [(.int v12), (.int v9), (.int 11), (.ref a4)])) ?_ fun t k => (by
    refine XS.aload X0.here hx rfl (hb hby at_241) rfl rfl ?_
    refine XS.iload X0.here hx rfl (hb hby at_243) rfl ?_
    refine XS.iload X0.here hx rfl (hb hby at_245) rfl ?_
    refine XS.iload X0.here hx rfl (hb hby at_247) rfl ?_
    exact k)
  obtain ⟨_, _, ⟨T101, L101, k101, n101⟩, -, X101, ⟨Lc101, hQ101, l101, y101, z101⟩, st101⟩ := Jvm.LawKit.callS X0 hx (y := own_mn3) hown (mvT hZ (own_i hw 25 rfl)) (mvT hZ (own_i hw 26 rfl)) (mvT hZ (own_i hw 27 rfl)) (mvT hZ (own_i hw 28 rfl)) (by decide) (backOf (W := 0) (own_rmmkD11 l Z a0 hw hst [] a4 ua v9 v12 h n0 Xo0 hS rb_v12) hZ (own_i hw 28 rfl) (own_i hw 27 rfl) (by decide) (by decide)) (g := (mkF m 249 #[sI p0, sI p1, sI p2, sI 0, sR a4, sR dv, sI 11, sI v7, sI v8, sI v9, .unset, .unset, sI v12] [(.int v12), (.int v9), (.int 11), (.ref a4)])) rfl (by rw [hml]; rfl) (argsL := [(.ref a4), (.int 11), (.int v9), (.int v12)]) (rest := []) (lenOf own_pd7 rfl) rfl (by show 2 * 0 + _ ≤ _; exact Nat.le_of_eq rfl) (hb hby at_249) (fun _ _ => ⟨rfl, e0, (by decide : 2 + 3 ≤ _), (by decide : 50 + 26 ≤ _)⟩)
  dsimp only [own_R, Pt.U, Pt.locs, Pt.cells, Pt.slots] at X101 l101 y101 z101 st101 hQ101
  subst y101 z101
  obtain ⟨oo101, ou101, hv101, N101q, K101, g101_0⟩ := hQ101
  subst hv101
  obtain ⟨h101, e101⟩ : ∃ z, T101.heap = z := ⟨_, rfl⟩
  rw [e101] at K101 g101_0
  have Cs101 : CHr Z consts_1 vm0 h vm0 h101 := CHr.keep K101 sf0 Ch0.1
  have Ch101 := Ch0.trans Cs101
  have Xo101 := Xo0.keep K101 all0
  have KK101 := KK0.trans K101 all0
  have N101 : Fr n0 L101 := by rw [l101]; exact Fr.app N0 N101q
  refine own_to ?_ st101
  refine own_to (V := T101.setTop (mkF m 257 #[sI p0, sI p1, sI p2, sI 0, sR a4, sR dv, sI 11, sI v7, sI v8, sI v9, sR oo101, .val .null, sI v12] [])) ?_ fun t k => (by
    refine XS.astore X101.here hx rfl (hb hby at_252) rfl rfl (l' := #[sI p0, sI p1, sI p2, sI 0, sR a4, sR dv, sI 11, sI v7, sI v8, sI v9, sR oo101, .unset, sI v12]) rfl ?_
    refine XS.aconstNull X101.here hx rfl (hb hby at_254) ?_
    refine XS.astore X101.here hx rfl (hb hby at_255) rfl rfl (l' := #[sI p0, sI p1, sI p2, sI 0, sR a4, sR dv, sI 11, sI v7, sI v8, sI v9, sR oo101, .val .null, sI v12]) rfl ?_
    exact k)
  exact own_sglr l Z a0 hw hst p0 p1 p2 dv pd h0 n0 (0 : Int32) a4 dv (11 : Int32) v7 v8 v9 (sI v12) oo101 ou101 .null ([(own_at (0 : Int32) v9 v12 (68 : Int32)), (own_at (1 : Int32) v9 v12 (101 : Int32)), (own_at (2 : Int32) v9 v12 (118 : Int32)), (own_at (3 : Int32) v9 v12 (101 : Int32)), (own_at (4 : Int32) v9 v12 (108 : Int32)), (own_at (5 : Int32) v9 v12 (111 : Int32)), (own_at (6 : Int32) v9 v12 (112 : Int32)), (own_at (7 : Int32) v9 v12 (109 : Int32)), (own_at (8 : Int32) v9 v12 (101 : Int32)), (own_at (9 : Int32) v9 v12 (110 : Int32)), (own_at (10 : Int32) v9 v12 (116 : Int32))] : List Int32) hx hby hret hlk hml hnm hS0 hh hZ hown (X101.wide (L' := _) (cells' := 12) (slots' := 200) (fun x hx _ => hx) (by decide) (by decide)) e101 (Nat.le_trans hk0 K101.1) Ch101 N101 Xo101 KK101 hR rfl g101_0 (Or.inr (Or.inr ⟨(own_flD hd), (own_lnD _ _), rfl⟩))
set_option maxRecDepth 65536 in
set_option maxHeartbeats 40000000 in
theorem own_sgleD (l : Launch) (Z : State) (a0 : Array Value) (hw : ∀ d ∈ tables_1, d.before a0 Z = true) (hst : own_St Z) (p0 : Int32) (p1 : Int32) (p2 : Int32) (dv : Addr) (pd : Addr) (h0 : Heap) (n0 : Nat) (a4 : Addr) (ua : Addr) (v7 : Int32) (v8 : Int32) (v9 : Int32)
    {p : Program} {e : Env} {s : State} {m : MethodId} {args : Array Value} {below : List Frame} {meth : Method} {c : Code} (hx : p.tables.exec = Jvm.exec) (hby : c.code = code) (hret : meth.sig.returnType = ret) (hlk : meth.locks = false) (hml : c.maxLocals = 13) (hnm : meth.name = "law") {vm0 : Vm} {k0 : Nat} (hS0 : s.Since vm0 k0) (hh : s.heap = h0) (hZ : Z.Warmed39 (s.setVm vm0).vm) (hown : (s.setVm vm0).vm.findClass "com/example/tallowlark/tallowlark/server/StageFromArgumentPinLaw" = some m.cls)
    {T0 : State} {locs : List Loc} {h : Heap} (X0 : Stand p l e room_1 (s.setVm vm0) m args below meth c T0 locs 2 50) (e0 : T0.heap = h) (hk0 : k0 ≤ h.size) (Ch0 : CHr Z consts_1 s.vm h0 vm0 h) (N0 : Fr n0 locs) (Xo0 : Old Z n0 h) (KK0 : Keep h0 h []) (hR : own_Stg Z dv pd) (hS : own_Str Z h a4 ua ([(68 : Int32), (101 : Int32), (118 : Int32), (101 : Int32), (108 : Int32), (111 : Int32), (112 : Int32), (109 : Int32), (101 : Int32), (110 : Int32), (116 : Int32)] : List Int32)) (hi : v9 = (0 : Int32) ∨ v9 = (1 : Int32) ∨ v9 = (2 : Int32) ∨ v9 = (3 : Int32) ∨ v9 = (4 : Int32) ∨ v9 = (5 : Int32) ∨ v9 = (6 : Int32) ∨ v9 = (7 : Int32) ∨ v9 = (8 : Int32) ∨ v9 = (9 : Int32) ∨ v9 = (10 : Int32)) :
    own_Go p e below (own_PostH Z s (own_Qlaw Z p0 p1 p2 dv pd h0 n0) room_1.cells room_1.slots) (T0.setTop (mkF m 228 #[sI p0, sI p1, sI p2, sI 0, sR a4, sR dv, sI 11, sI v7, sI v8, sI v9, .unset, .unset, .unset] [])) := by
  obtain ⟨⟨G1, O2, P5⟩, ⟨G3, O4, rG3⟩, -⟩ := id hst
  obtain ⟨oD, oP, eD, eP, va, kV, sd, ud, sp, up, oV, eV, aV, fD, fP, sD, sP⟩ := id hR
  rcases hi with hcv101_0 | hcv102_1 | hcv103_2 | hcv104_3 | hcv105_4 | hcv106_5 | hcv107_6 | hcv108_7 | hcv109_8 | hcv110_9 | hcv111_10
  · skip
    subst hcv101_0
    refine own_to (V := T0.setTop (mkF m 232 #[sI p0, sI p1, sI p2, sI 0, sR a4, sR dv, sI 11, sI v7, sI v8, sI 0, .unset, .unset, .unset] [(.int 0), (.ref a4)])) ?_ fun t k => (by
      refine XS.aload X0.here hx rfl (hb hby at_228) rfl rfl ?_
      refine XS.iload X0.here hx rfl (hb hby at_230) rfl ?_
      exact k)
    obtain ⟨sN113, sk113, sv113, sE113, sV113, sC113, sK113, sc113, sb113, sl113⟩ := own_Str.latin hS (own_lat2 (own_allS (by decide) (own_allS (by decide) (own_allS (by decide) (own_allS (by decide) (own_allS (by decide) (own_allS (by decide) (own_allS (by decide) (own_allS (by decide) (own_allS (by decide) (own_allS (by decide) (own_allS (by decide) own_all0))))))))))))
    obtain ⟨cq112, kq112, q112a, q112b, q112c⟩ := isOf hZ e0 hS.1
    obtain ⟨_, _, ⟨T112, L112, k112, n112⟩, -, X112, ⟨Lc112, hQ112, l112, y112, z112⟩, st112⟩ := X0.virtualBack hx (y := own_mn2) (z := own_mn2) hown (mvT hZ (own_i hw 33 rfl)) (mvT hZ (own_i hw 34 rfl)) (notFace_of_selects (args := #[]) (mvT hZ (own_i hw 36 rfl))) (mvT hZ (own_i hw 36 rfl)) (mvT hZ (own_i hw 35 rfl)) (by decide) (StrChars.Road.chN (W := 0) hZ (own_hch hw) (kI := 4) (own_i hw 2 rfl) sE113 sV113 sC113 sK113 sc113 sb113 (O2.ext Xo0.2) P5 (O4.ext Xo0.2) rG3 sl113 (i := 0) (Nat.le_of_ble_eq_true rfl) (j := (0 : Int32)) rfl (by decide) (by decide)) q112a q112c (g := (mkF m 232 #[sI p0, sI p1, sI p2, sI 0, sR a4, sR dv, sI 11, sI v7, sI v8, sI 0, .unset, .unset, .unset] [(.int 0), (.ref a4)])) rfl (by rw [hml]; rfl) (Steps.refl _) (argsL := [(.int 0)]) (rest := []) (lenOf own_pd1 rfl) rfl (by show 2 * 0 + _ ≤ _; exact Nat.le_of_eq rfl) (hb hby at_232) (fun _ _ => ⟨rfl, e0, (by decide : 2 + 0 ≤ _), (by decide : 50 + 0 ≤ _)⟩)
    dsimp only [own_R, Pt.U, Pt.locs, Pt.cells, Pt.slots] at X112 l112 y112 z112 st112 hQ112
    subst y112 z112
    obtain ⟨hv112, hL112, hh112⟩ := hQ112
    subst hL112
    have N112 : Fr n0 L112 := by rw [l112]; exact Fr.app N0 (Fr.nil n0)
    subst hv112
    refine own_to ?_ (fun t k => st112.trans k)
    refine own_to (V := T112.setTop (mkF m 241 #[sI p0, sI p1, sI p2, sI 0, sR a4, sR dv, sI 11, sI v7, sI v8, sI 0, .unset, .unset, sI 100] [])) ?_ fun t k => (by
      refine XS.bipush X112.here hx rfl (hb hby at_235) ?_
      refine XS.ixor X112.here hx rfl (hb hby at_237) rfl ?_
      refine XS.i2c X112.here hx rfl (hb hby at_238) rfl ?_
      refine XS.istore X112.here hx rfl (hb hby at_239) rfl (l' := #[sI p0, sI p1, sI p2, sI 0, sR a4, sR dv, sI 11, sI v7, sI v8, sI 0, .unset, .unset, sI 100]) rfl ?_
      exact k)
    exact own_sglfD l Z a0 hw hst p0 p1 p2 dv pd h0 n0 a4 ua v7 v8 (0 : Int32) (100 : Int32) hx hby hret hlk hml hnm hS0 hh hZ hown X112 hh112 hk0 Ch0 N112 Xo0 KK0 hR hS (Or.inl ⟨rfl, rfl⟩)
  · skip
    subst hcv102_1
    refine own_to (V := T0.setTop (mkF m 232 #[sI p0, sI p1, sI p2, sI 0, sR a4, sR dv, sI 11, sI v7, sI v8, sI 1, .unset, .unset, .unset] [(.int 1), (.ref a4)])) ?_ fun t k => (by
      refine XS.aload X0.here hx rfl (hb hby at_228) rfl rfl ?_
      refine XS.iload X0.here hx rfl (hb hby at_230) rfl ?_
      exact k)
    obtain ⟨sN115, sk115, sv115, sE115, sV115, sC115, sK115, sc115, sb115, sl115⟩ := own_Str.latin hS (own_lat2 (own_allS (by decide) (own_allS (by decide) (own_allS (by decide) (own_allS (by decide) (own_allS (by decide) (own_allS (by decide) (own_allS (by decide) (own_allS (by decide) (own_allS (by decide) (own_allS (by decide) (own_allS (by decide) own_all0))))))))))))
    obtain ⟨cq114, kq114, q114a, q114b, q114c⟩ := isOf hZ e0 hS.1
    obtain ⟨_, _, ⟨T114, L114, k114, n114⟩, -, X114, ⟨Lc114, hQ114, l114, y114, z114⟩, st114⟩ := X0.virtualBack hx (y := own_mn2) (z := own_mn2) hown (mvT hZ (own_i hw 33 rfl)) (mvT hZ (own_i hw 34 rfl)) (notFace_of_selects (args := #[]) (mvT hZ (own_i hw 36 rfl))) (mvT hZ (own_i hw 36 rfl)) (mvT hZ (own_i hw 35 rfl)) (by decide) (StrChars.Road.chN (W := 0) hZ (own_hch hw) (kI := 4) (own_i hw 2 rfl) sE115 sV115 sC115 sK115 sc115 sb115 (O2.ext Xo0.2) P5 (O4.ext Xo0.2) rG3 sl115 (i := 1) (Nat.le_of_ble_eq_true rfl) (j := (1 : Int32)) rfl (by decide) (by decide)) q114a q114c (g := (mkF m 232 #[sI p0, sI p1, sI p2, sI 0, sR a4, sR dv, sI 11, sI v7, sI v8, sI 1, .unset, .unset, .unset] [(.int 1), (.ref a4)])) rfl (by rw [hml]; rfl) (Steps.refl _) (argsL := [(.int 1)]) (rest := []) (lenOf own_pd1 rfl) rfl (by show 2 * 0 + _ ≤ _; exact Nat.le_of_eq rfl) (hb hby at_232) (fun _ _ => ⟨rfl, e0, (by decide : 2 + 0 ≤ _), (by decide : 50 + 0 ≤ _)⟩)
    dsimp only [own_R, Pt.U, Pt.locs, Pt.cells, Pt.slots] at X114 l114 y114 z114 st114 hQ114
    subst y114 z114
    obtain ⟨hv114, hL114, hh114⟩ := hQ114
    subst hL114
    have N114 : Fr n0 L114 := by rw [l114]; exact Fr.app N0 (Fr.nil n0)
    subst hv114
    refine own_to ?_ (fun t k => st114.trans k)
    refine own_to (V := T114.setTop (mkF m 241 #[sI p0, sI p1, sI p2, sI 0, sR a4, sR dv, sI 11, sI v7, sI v8, sI 1, .unset, .unset, sI 69] [])) ?_ fun t k => (by
      refine XS.bipush X114.here hx rfl (hb hby at_235) ?_
      refine XS.ixor X114.here hx rfl (hb hby at_237) rfl ?_
      refine XS.i2c X114.here hx rfl (hb hby at_238) rfl ?_
      refine XS.istore X114.here hx rfl (hb hby at_239) rfl (l' := #[sI p0, sI p1, sI p2, sI 0, sR a4, sR dv, sI 11, sI v7, sI v8, sI 1, .unset, .unset, sI 69]) rfl ?_
      exact k)
    exact own_sglfD l Z a0 hw hst p0 p1 p2 dv pd h0 n0 a4 ua v7 v8 (1 : Int32) (69 : Int32) hx hby hret hlk hml hnm hS0 hh hZ hown X114 hh114 hk0 Ch0 N114 Xo0 KK0 hR hS (Or.inr (Or.inl ⟨rfl, rfl⟩))
  · skip
    subst hcv103_2
    refine own_to (V := T0.setTop (mkF m 232 #[sI p0, sI p1, sI p2, sI 0, sR a4, sR dv, sI 11, sI v7, sI v8, sI 2, .unset, .unset, .unset] [(.int 2), (.ref a4)])) ?_ fun t k => (by
      refine XS.aload X0.here hx rfl (hb hby at_228) rfl rfl ?_
      refine XS.iload X0.here hx rfl (hb hby at_230) rfl ?_
      exact k)
    obtain ⟨sN117, sk117, sv117, sE117, sV117, sC117, sK117, sc117, sb117, sl117⟩ := own_Str.latin hS (own_lat2 (own_allS (by decide) (own_allS (by decide) (own_allS (by decide) (own_allS (by decide) (own_allS (by decide) (own_allS (by decide) (own_allS (by decide) (own_allS (by decide) (own_allS (by decide) (own_allS (by decide) (own_allS (by decide) own_all0))))))))))))
    obtain ⟨cq116, kq116, q116a, q116b, q116c⟩ := isOf hZ e0 hS.1
    obtain ⟨_, _, ⟨T116, L116, k116, n116⟩, -, X116, ⟨Lc116, hQ116, l116, y116, z116⟩, st116⟩ := X0.virtualBack hx (y := own_mn2) (z := own_mn2) hown (mvT hZ (own_i hw 33 rfl)) (mvT hZ (own_i hw 34 rfl)) (notFace_of_selects (args := #[]) (mvT hZ (own_i hw 36 rfl))) (mvT hZ (own_i hw 36 rfl)) (mvT hZ (own_i hw 35 rfl)) (by decide) (StrChars.Road.chN (W := 0) hZ (own_hch hw) (kI := 4) (own_i hw 2 rfl) sE117 sV117 sC117 sK117 sc117 sb117 (O2.ext Xo0.2) P5 (O4.ext Xo0.2) rG3 sl117 (i := 2) (Nat.le_of_ble_eq_true rfl) (j := (2 : Int32)) rfl (by decide) (by decide)) q116a q116c (g := (mkF m 232 #[sI p0, sI p1, sI p2, sI 0, sR a4, sR dv, sI 11, sI v7, sI v8, sI 2, .unset, .unset, .unset] [(.int 2), (.ref a4)])) rfl (by rw [hml]; rfl) (Steps.refl _) (argsL := [(.int 2)]) (rest := []) (lenOf own_pd1 rfl) rfl (by show 2 * 0 + _ ≤ _; exact Nat.le_of_eq rfl) (hb hby at_232) (fun _ _ => ⟨rfl, e0, (by decide : 2 + 0 ≤ _), (by decide : 50 + 0 ≤ _)⟩)
    dsimp only [own_R, Pt.U, Pt.locs, Pt.cells, Pt.slots] at X116 l116 y116 z116 st116 hQ116
    subst y116 z116
    obtain ⟨hv116, hL116, hh116⟩ := hQ116
    subst hL116
    have N116 : Fr n0 L116 := by rw [l116]; exact Fr.app N0 (Fr.nil n0)
    subst hv116
    refine own_to ?_ (fun t k => st116.trans k)
    refine own_to (V := T116.setTop (mkF m 241 #[sI p0, sI p1, sI p2, sI 0, sR a4, sR dv, sI 11, sI v7, sI v8, sI 2, .unset, .unset, sI 86] [])) ?_ fun t k => (by
      refine XS.bipush X116.here hx rfl (hb hby at_235) ?_
      refine XS.ixor X116.here hx rfl (hb hby at_237) rfl ?_
      refine XS.i2c X116.here hx rfl (hb hby at_238) rfl ?_
      refine XS.istore X116.here hx rfl (hb hby at_239) rfl (l' := #[sI p0, sI p1, sI p2, sI 0, sR a4, sR dv, sI 11, sI v7, sI v8, sI 2, .unset, .unset, sI 86]) rfl ?_
      exact k)
    exact own_sglfD l Z a0 hw hst p0 p1 p2 dv pd h0 n0 a4 ua v7 v8 (2 : Int32) (86 : Int32) hx hby hret hlk hml hnm hS0 hh hZ hown X116 hh116 hk0 Ch0 N116 Xo0 KK0 hR hS (Or.inr (Or.inr (Or.inl ⟨rfl, rfl⟩)))
  · skip
    subst hcv104_3
    refine own_to (V := T0.setTop (mkF m 232 #[sI p0, sI p1, sI p2, sI 0, sR a4, sR dv, sI 11, sI v7, sI v8, sI 3, .unset, .unset, .unset] [(.int 3), (.ref a4)])) ?_ fun t k => (by
      refine XS.aload X0.here hx rfl (hb hby at_228) rfl rfl ?_
      refine XS.iload X0.here hx rfl (hb hby at_230) rfl ?_
      exact k)
    obtain ⟨sN119, sk119, sv119, sE119, sV119, sC119, sK119, sc119, sb119, sl119⟩ := own_Str.latin hS (own_lat2 (own_allS (by decide) (own_allS (by decide) (own_allS (by decide) (own_allS (by decide) (own_allS (by decide) (own_allS (by decide) (own_allS (by decide) (own_allS (by decide) (own_allS (by decide) (own_allS (by decide) (own_allS (by decide) own_all0))))))))))))
    obtain ⟨cq118, kq118, q118a, q118b, q118c⟩ := isOf hZ e0 hS.1
    obtain ⟨_, _, ⟨T118, L118, k118, n118⟩, -, X118, ⟨Lc118, hQ118, l118, y118, z118⟩, st118⟩ := X0.virtualBack hx (y := own_mn2) (z := own_mn2) hown (mvT hZ (own_i hw 33 rfl)) (mvT hZ (own_i hw 34 rfl)) (notFace_of_selects (args := #[]) (mvT hZ (own_i hw 36 rfl))) (mvT hZ (own_i hw 36 rfl)) (mvT hZ (own_i hw 35 rfl)) (by decide) (StrChars.Road.chN (W := 0) hZ (own_hch hw) (kI := 4) (own_i hw 2 rfl) sE119 sV119 sC119 sK119 sc119 sb119 (O2.ext Xo0.2) P5 (O4.ext Xo0.2) rG3 sl119 (i := 3) (Nat.le_of_ble_eq_true rfl) (j := (3 : Int32)) rfl (by decide) (by decide)) q118a q118c (g := (mkF m 232 #[sI p0, sI p1, sI p2, sI 0, sR a4, sR dv, sI 11, sI v7, sI v8, sI 3, .unset, .unset, .unset] [(.int 3), (.ref a4)])) rfl (by rw [hml]; rfl) (Steps.refl _) (argsL := [(.int 3)]) (rest := []) (lenOf own_pd1 rfl) rfl (by show 2 * 0 + _ ≤ _; exact Nat.le_of_eq rfl) (hb hby at_232) (fun _ _ => ⟨rfl, e0, (by decide : 2 + 0 ≤ _), (by decide : 50 + 0 ≤ _)⟩)
    dsimp only [own_R, Pt.U, Pt.locs, Pt.cells, Pt.slots] at X118 l118 y118 z118 st118 hQ118
    subst y118 z118
    obtain ⟨hv118, hL118, hh118⟩ := hQ118
    subst hL118
    have N118 : Fr n0 L118 := by rw [l118]; exact Fr.app N0 (Fr.nil n0)
    subst hv118
    refine own_to ?_ (fun t k => st118.trans k)
    refine own_to (V := T118.setTop (mkF m 241 #[sI p0, sI p1, sI p2, sI 0, sR a4, sR dv, sI 11, sI v7, sI v8, sI 3, .unset, .unset, sI 69] [])) ?_ fun t k => (by
      refine XS.bipush X118.here hx rfl (hb hby at_235) ?_
      refine XS.ixor X118.here hx rfl (hb hby at_237) rfl ?_
      refine XS.i2c X118.here hx rfl (hb hby at_238) rfl ?_
      refine XS.istore X118.here hx rfl (hb hby at_239) rfl (l' := #[sI p0, sI p1, sI p2, sI 0, sR a4, sR dv, sI 11, sI v7, sI v8, sI 3, .unset, .unset, sI 69]) rfl ?_
      exact k)
    exact own_sglfD l Z a0 hw hst p0 p1 p2 dv pd h0 n0 a4 ua v7 v8 (3 : Int32) (69 : Int32) hx hby hret hlk hml hnm hS0 hh hZ hown X118 hh118 hk0 Ch0 N118 Xo0 KK0 hR hS (Or.inr (Or.inr (Or.inr (Or.inl ⟨rfl, rfl⟩))))
  · skip
    subst hcv105_4
    refine own_to (V := T0.setTop (mkF m 232 #[sI p0, sI p1, sI p2, sI 0, sR a4, sR dv, sI 11, sI v7, sI v8, sI 4, .unset, .unset, .unset] [(.int 4), (.ref a4)])) ?_ fun t k => (by
      refine XS.aload X0.here hx rfl (hb hby at_228) rfl rfl ?_
      refine XS.iload X0.here hx rfl (hb hby at_230) rfl ?_
      exact k)
    obtain ⟨sN121, sk121, sv121, sE121, sV121, sC121, sK121, sc121, sb121, sl121⟩ := own_Str.latin hS (own_lat2 (own_allS (by decide) (own_allS (by decide) (own_allS (by decide) (own_allS (by decide) (own_allS (by decide) (own_allS (by decide) (own_allS (by decide) (own_allS (by decide) (own_allS (by decide) (own_allS (by decide) (own_allS (by decide) own_all0))))))))))))
    obtain ⟨cq120, kq120, q120a, q120b, q120c⟩ := isOf hZ e0 hS.1
    obtain ⟨_, _, ⟨T120, L120, k120, n120⟩, -, X120, ⟨Lc120, hQ120, l120, y120, z120⟩, st120⟩ := X0.virtualBack hx (y := own_mn2) (z := own_mn2) hown (mvT hZ (own_i hw 33 rfl)) (mvT hZ (own_i hw 34 rfl)) (notFace_of_selects (args := #[]) (mvT hZ (own_i hw 36 rfl))) (mvT hZ (own_i hw 36 rfl)) (mvT hZ (own_i hw 35 rfl)) (by decide) (StrChars.Road.chN (W := 0) hZ (own_hch hw) (kI := 4) (own_i hw 2 rfl) sE121 sV121 sC121 sK121 sc121 sb121 (O2.ext Xo0.2) P5 (O4.ext Xo0.2) rG3 sl121 (i := 4) (Nat.le_of_ble_eq_true rfl) (j := (4 : Int32)) rfl (by decide) (by decide)) q120a q120c (g := (mkF m 232 #[sI p0, sI p1, sI p2, sI 0, sR a4, sR dv, sI 11, sI v7, sI v8, sI 4, .unset, .unset, .unset] [(.int 4), (.ref a4)])) rfl (by rw [hml]; rfl) (Steps.refl _) (argsL := [(.int 4)]) (rest := []) (lenOf own_pd1 rfl) rfl (by show 2 * 0 + _ ≤ _; exact Nat.le_of_eq rfl) (hb hby at_232) (fun _ _ => ⟨rfl, e0, (by decide : 2 + 0 ≤ _), (by decide : 50 + 0 ≤ _)⟩)
    dsimp only [own_R, Pt.U, Pt.locs, Pt.cells, Pt.slots] at X120 l120 y120 z120 st120 hQ120
    subst y120 z120
    obtain ⟨hv120, hL120, hh120⟩ := hQ120
    subst hL120
    have N120 : Fr n0 L120 := by rw [l120]; exact Fr.app N0 (Fr.nil n0)
    subst hv120
    refine own_to ?_ (fun t k => st120.trans k)
    refine own_to (V := T120.setTop (mkF m 241 #[sI p0, sI p1, sI p2, sI 0, sR a4, sR dv, sI 11, sI v7, sI v8, sI 4, .unset, .unset, sI 76] [])) ?_ fun t k => (by
      refine XS.bipush X120.here hx rfl (hb hby at_235) ?_
      refine XS.ixor X120.here hx rfl (hb hby at_237) rfl ?_
      refine XS.i2c X120.here hx rfl (hb hby at_238) rfl ?_
      refine XS.istore X120.here hx rfl (hb hby at_239) rfl (l' := #[sI p0, sI p1, sI p2, sI 0, sR a4, sR dv, sI 11, sI v7, sI v8, sI 4, .unset, .unset, sI 76]) rfl ?_
      exact k)
    exact own_sglfD l Z a0 hw hst p0 p1 p2 dv pd h0 n0 a4 ua v7 v8 (4 : Int32) (76 : Int32) hx hby hret hlk hml hnm hS0 hh hZ hown X120 hh120 hk0 Ch0 N120 Xo0 KK0 hR hS (Or.inr (Or.inr (Or.inr (Or.inr (Or.inl ⟨rfl, rfl⟩)))))
  · skip
    subst hcv106_5
    refine own_to (V := T0.setTop (mkF m 232 #[sI p0, sI p1, sI p2, sI 0, sR a4, sR dv, sI 11, sI v7, sI v8, sI 5, .unset, .unset, .unset] [(.int 5), (.ref a4)])) ?_ fun t k => (by
      refine XS.aload X0.here hx rfl (hb hby at_228) rfl rfl ?_
      refine XS.iload X0.here hx rfl (hb hby at_230) rfl ?_
      exact k)
    obtain ⟨sN123, sk123, sv123, sE123, sV123, sC123, sK123, sc123, sb123, sl123⟩ := own_Str.latin hS (own_lat2 (own_allS (by decide) (own_allS (by decide) (own_allS (by decide) (own_allS (by decide) (own_allS (by decide) (own_allS (by decide) (own_allS (by decide) (own_allS (by decide) (own_allS (by decide) (own_allS (by decide) (own_allS (by decide) own_all0))))))))))))
    obtain ⟨cq122, kq122, q122a, q122b, q122c⟩ := isOf hZ e0 hS.1
    obtain ⟨_, _, ⟨T122, L122, k122, n122⟩, -, X122, ⟨Lc122, hQ122, l122, y122, z122⟩, st122⟩ := X0.virtualBack hx (y := own_mn2) (z := own_mn2) hown (mvT hZ (own_i hw 33 rfl)) (mvT hZ (own_i hw 34 rfl)) (notFace_of_selects (args := #[]) (mvT hZ (own_i hw 36 rfl))) (mvT hZ (own_i hw 36 rfl)) (mvT hZ (own_i hw 35 rfl)) (by decide) (StrChars.Road.chN (W := 0) hZ (own_hch hw) (kI := 4) (own_i hw 2 rfl) sE123 sV123 sC123 sK123 sc123 sb123 (O2.ext Xo0.2) P5 (O4.ext Xo0.2) rG3 sl123 (i := 5) (Nat.le_of_ble_eq_true rfl) (j := (5 : Int32)) rfl (by decide) (by decide)) q122a q122c (g := (mkF m 232 #[sI p0, sI p1, sI p2, sI 0, sR a4, sR dv, sI 11, sI v7, sI v8, sI 5, .unset, .unset, .unset] [(.int 5), (.ref a4)])) rfl (by rw [hml]; rfl) (Steps.refl _) (argsL := [(.int 5)]) (rest := []) (lenOf own_pd1 rfl) rfl (by show 2 * 0 + _ ≤ _; exact Nat.le_of_eq rfl) (hb hby at_232) (fun _ _ => ⟨rfl, e0, (by decide : 2 + 0 ≤ _), (by decide : 50 + 0 ≤ _)⟩)
    dsimp only [own_R, Pt.U, Pt.locs, Pt.cells, Pt.slots] at X122 l122 y122 z122 st122 hQ122
    subst y122 z122
    obtain ⟨hv122, hL122, hh122⟩ := hQ122
    subst hL122
    have N122 : Fr n0 L122 := by rw [l122]; exact Fr.app N0 (Fr.nil n0)
    subst hv122
    refine own_to ?_ (fun t k => st122.trans k)
    refine own_to (V := T122.setTop (mkF m 241 #[sI p0, sI p1, sI p2, sI 0, sR a4, sR dv, sI 11, sI v7, sI v8, sI 5, .unset, .unset, sI 79] [])) ?_ fun t k => (by
      refine XS.bipush X122.here hx rfl (hb hby at_235) ?_
      refine XS.ixor X122.here hx rfl (hb hby at_237) rfl ?_
      refine XS.i2c X122.here hx rfl (hb hby at_238) rfl ?_
      refine XS.istore X122.here hx rfl (hb hby at_239) rfl (l' := #[sI p0, sI p1, sI p2, sI 0, sR a4, sR dv, sI 11, sI v7, sI v8, sI 5, .unset, .unset, sI 79]) rfl ?_
      exact k)
    exact own_sglfD l Z a0 hw hst p0 p1 p2 dv pd h0 n0 a4 ua v7 v8 (5 : Int32) (79 : Int32) hx hby hret hlk hml hnm hS0 hh hZ hown X122 hh122 hk0 Ch0 N122 Xo0 KK0 hR hS (Or.inr (Or.inr (Or.inr (Or.inr (Or.inr (Or.inl ⟨rfl, rfl⟩))))))
  · skip
    subst hcv107_6
    refine own_to (V := T0.setTop (mkF m 232 #[sI p0, sI p1, sI p2, sI 0, sR a4, sR dv, sI 11, sI v7, sI v8, sI 6, .unset, .unset, .unset] [(.int 6), (.ref a4)])) ?_ fun t k => (by
      refine XS.aload X0.here hx rfl (hb hby at_228) rfl rfl ?_
      refine XS.iload X0.here hx rfl (hb hby at_230) rfl ?_
      exact k)
    obtain ⟨sN125, sk125, sv125, sE125, sV125, sC125, sK125, sc125, sb125, sl125⟩ := own_Str.latin hS (own_lat2 (own_allS (by decide) (own_allS (by decide) (own_allS (by decide) (own_allS (by decide) (own_allS (by decide) (own_allS (by decide) (own_allS (by decide) (own_allS (by decide) (own_allS (by decide) (own_allS (by decide) (own_allS (by decide) own_all0))))))))))))
    obtain ⟨cq124, kq124, q124a, q124b, q124c⟩ := isOf hZ e0 hS.1
    obtain ⟨_, _, ⟨T124, L124, k124, n124⟩, -, X124, ⟨Lc124, hQ124, l124, y124, z124⟩, st124⟩ := X0.virtualBack hx (y := own_mn2) (z := own_mn2) hown (mvT hZ (own_i hw 33 rfl)) (mvT hZ (own_i hw 34 rfl)) (notFace_of_selects (args := #[]) (mvT hZ (own_i hw 36 rfl))) (mvT hZ (own_i hw 36 rfl)) (mvT hZ (own_i hw 35 rfl)) (by decide) (StrChars.Road.chN (W := 0) hZ (own_hch hw) (kI := 4) (own_i hw 2 rfl) sE125 sV125 sC125 sK125 sc125 sb125 (O2.ext Xo0.2) P5 (O4.ext Xo0.2) rG3 sl125 (i := 6) (Nat.le_of_ble_eq_true rfl) (j := (6 : Int32)) rfl (by decide) (by decide)) q124a q124c (g := (mkF m 232 #[sI p0, sI p1, sI p2, sI 0, sR a4, sR dv, sI 11, sI v7, sI v8, sI 6, .unset, .unset, .unset] [(.int 6), (.ref a4)])) rfl (by rw [hml]; rfl) (Steps.refl _) (argsL := [(.int 6)]) (rest := []) (lenOf own_pd1 rfl) rfl (by show 2 * 0 + _ ≤ _; exact Nat.le_of_eq rfl) (hb hby at_232) (fun _ _ => ⟨rfl, e0, (by decide : 2 + 0 ≤ _), (by decide : 50 + 0 ≤ _)⟩)
    dsimp only [own_R, Pt.U, Pt.locs, Pt.cells, Pt.slots] at X124 l124 y124 z124 st124 hQ124
    subst y124 z124
    obtain ⟨hv124, hL124, hh124⟩ := hQ124
    subst hL124
    have N124 : Fr n0 L124 := by rw [l124]; exact Fr.app N0 (Fr.nil n0)
    subst hv124
    refine own_to ?_ (fun t k => st124.trans k)
    refine own_to (V := T124.setTop (mkF m 241 #[sI p0, sI p1, sI p2, sI 0, sR a4, sR dv, sI 11, sI v7, sI v8, sI 6, .unset, .unset, sI 80] [])) ?_ fun t k => (by
      refine XS.bipush X124.here hx rfl (hb hby at_235) ?_
      refine XS.ixor X124.here hx rfl (hb hby at_237) rfl ?_
      refine XS.i2c X124.here hx rfl (hb hby at_238) rfl ?_
      refine XS.istore X124.here hx rfl (hb hby at_239) rfl (l' := #[sI p0, sI p1, sI p2, sI 0, sR a4, sR dv, sI 11, sI v7, sI v8, sI 6, .unset, .unset, sI 80]) rfl ?_
      exact k)
    exact own_sglfD l Z a0 hw hst p0 p1 p2 dv pd h0 n0 a4 ua v7 v8 (6 : Int32) (80 : Int32) hx hby hret hlk hml hnm hS0 hh hZ hown X124 hh124 hk0 Ch0 N124 Xo0 KK0 hR hS (Or.inr (Or.inr (Or.inr (Or.inr (Or.inr (Or.inr (Or.inl ⟨rfl, rfl⟩)))))))
  · skip
    subst hcv108_7
    refine own_to (V := T0.setTop (mkF m 232 #[sI p0, sI p1, sI p2, sI 0, sR a4, sR dv, sI 11, sI v7, sI v8, sI 7, .unset, .unset, .unset] [(.int 7), (.ref a4)])) ?_ fun t k => (by
      refine XS.aload X0.here hx rfl (hb hby at_228) rfl rfl ?_
      refine XS.iload X0.here hx rfl (hb hby at_230) rfl ?_
      exact k)
    obtain ⟨sN127, sk127, sv127, sE127, sV127, sC127, sK127, sc127, sb127, sl127⟩ := own_Str.latin hS (own_lat2 (own_allS (by decide) (own_allS (by decide) (own_allS (by decide) (own_allS (by decide) (own_allS (by decide) (own_allS (by decide) (own_allS (by decide) (own_allS (by decide) (own_allS (by decide) (own_allS (by decide) (own_allS (by decide) own_all0))))))))))))
    obtain ⟨cq126, kq126, q126a, q126b, q126c⟩ := isOf hZ e0 hS.1
    obtain ⟨_, _, ⟨T126, L126, k126, n126⟩, -, X126, ⟨Lc126, hQ126, l126, y126, z126⟩, st126⟩ := X0.virtualBack hx (y := own_mn2) (z := own_mn2) hown (mvT hZ (own_i hw 33 rfl)) (mvT hZ (own_i hw 34 rfl)) (notFace_of_selects (args := #[]) (mvT hZ (own_i hw 36 rfl))) (mvT hZ (own_i hw 36 rfl)) (mvT hZ (own_i hw 35 rfl)) (by decide) (StrChars.Road.chN (W := 0) hZ (own_hch hw) (kI := 4) (own_i hw 2 rfl) sE127 sV127 sC127 sK127 sc127 sb127 (O2.ext Xo0.2) P5 (O4.ext Xo0.2) rG3 sl127 (i := 7) (Nat.le_of_ble_eq_true rfl) (j := (7 : Int32)) rfl (by decide) (by decide)) q126a q126c (g := (mkF m 232 #[sI p0, sI p1, sI p2, sI 0, sR a4, sR dv, sI 11, sI v7, sI v8, sI 7, .unset, .unset, .unset] [(.int 7), (.ref a4)])) rfl (by rw [hml]; rfl) (Steps.refl _) (argsL := [(.int 7)]) (rest := []) (lenOf own_pd1 rfl) rfl (by show 2 * 0 + _ ≤ _; exact Nat.le_of_eq rfl) (hb hby at_232) (fun _ _ => ⟨rfl, e0, (by decide : 2 + 0 ≤ _), (by decide : 50 + 0 ≤ _)⟩)
    dsimp only [own_R, Pt.U, Pt.locs, Pt.cells, Pt.slots] at X126 l126 y126 z126 st126 hQ126
    subst y126 z126
    obtain ⟨hv126, hL126, hh126⟩ := hQ126
    subst hL126
    have N126 : Fr n0 L126 := by rw [l126]; exact Fr.app N0 (Fr.nil n0)
    subst hv126
    refine own_to ?_ (fun t k => st126.trans k)
    refine own_to (V := T126.setTop (mkF m 241 #[sI p0, sI p1, sI p2, sI 0, sR a4, sR dv, sI 11, sI v7, sI v8, sI 7, .unset, .unset, sI 77] [])) ?_ fun t k => (by
      refine XS.bipush X126.here hx rfl (hb hby at_235) ?_
      refine XS.ixor X126.here hx rfl (hb hby at_237) rfl ?_
      refine XS.i2c X126.here hx rfl (hb hby at_238) rfl ?_
      refine XS.istore X126.here hx rfl (hb hby at_239) rfl (l' := #[sI p0, sI p1, sI p2, sI 0, sR a4, sR dv, sI 11, sI v7, sI v8, sI 7, .unset, .unset, sI 77]) rfl ?_
      exact k)
    exact own_sglfD l Z a0 hw hst p0 p1 p2 dv pd h0 n0 a4 ua v7 v8 (7 : Int32) (77 : Int32) hx hby hret hlk hml hnm hS0 hh hZ hown X126 hh126 hk0 Ch0 N126 Xo0 KK0 hR hS (Or.inr (Or.inr (Or.inr (Or.inr (Or.inr (Or.inr (Or.inr (Or.inl ⟨rfl, rfl⟩))))))))
  · skip
    subst hcv109_8
    refine own_to (V := T0.setTop (mkF m 232 #[sI p0, sI p1, sI p2, sI 0, sR a4, sR dv, sI 11, sI v7, sI v8, sI 8, .unset, .unset, .unset] [(.int 8), (.ref a4)])) ?_ fun t k => (by
      refine XS.aload X0.here hx rfl (hb hby at_228) rfl rfl ?_
      refine XS.iload X0.here hx rfl (hb hby at_230) rfl ?_
      exact k)
    obtain ⟨sN129, sk129, sv129, sE129, sV129, sC129, sK129, sc129, sb129, sl129⟩ := own_Str.latin hS (own_lat2 (own_allS (by decide) (own_allS (by decide) (own_allS (by decide) (own_allS (by decide) (own_allS (by decide) (own_allS (by decide) (own_allS (by decide) (own_allS (by decide) (own_allS (by decide) (own_allS (by decide) (own_allS (by decide) own_all0))))))))))))
    obtain ⟨cq128, kq128, q128a, q128b, q128c⟩ := isOf hZ e0 hS.1
    obtain ⟨_, _, ⟨T128, L128, k128, n128⟩, -, X128, ⟨Lc128, hQ128, l128, y128, z128⟩, st128⟩ := X0.virtualBack hx (y := own_mn2) (z := own_mn2) hown (mvT hZ (own_i hw 33 rfl)) (mvT hZ (own_i hw 34 rfl)) (notFace_of_selects (args := #[]) (mvT hZ (own_i hw 36 rfl))) (mvT hZ (own_i hw 36 rfl)) (mvT hZ (own_i hw 35 rfl)) (by decide) (StrChars.Road.chN (W := 0) hZ (own_hch hw) (kI := 4) (own_i hw 2 rfl) sE129 sV129 sC129 sK129 sc129 sb129 (O2.ext Xo0.2) P5 (O4.ext Xo0.2) rG3 sl129 (i := 8) (Nat.le_of_ble_eq_true rfl) (j := (8 : Int32)) rfl (by decide) (by decide)) q128a q128c (g := (mkF m 232 #[sI p0, sI p1, sI p2, sI 0, sR a4, sR dv, sI 11, sI v7, sI v8, sI 8, .unset, .unset, .unset] [(.int 8), (.ref a4)])) rfl (by rw [hml]; rfl) (Steps.refl _) (argsL := [(.int 8)]) (rest := []) (lenOf own_pd1 rfl) rfl (by show 2 * 0 + _ ≤ _; exact Nat.le_of_eq rfl) (hb hby at_232) (fun _ _ => ⟨rfl, e0, (by decide : 2 + 0 ≤ _), (by decide : 50 + 0 ≤ _)⟩)
    dsimp only [own_R, Pt.U, Pt.locs, Pt.cells, Pt.slots] at X128 l128 y128 z128 st128 hQ128
    subst y128 z128
    obtain ⟨hv128, hL128, hh128⟩ := hQ128
    subst hL128
    have N128 : Fr n0 L128 := by rw [l128]; exact Fr.app N0 (Fr.nil n0)
    subst hv128
    refine own_to ?_ (fun t k => st128.trans k)
    refine own_to (V := T128.setTop (mkF m 241 #[sI p0, sI p1, sI p2, sI 0, sR a4, sR dv, sI 11, sI v7, sI v8, sI 8, .unset, .unset, sI 69] [])) ?_ fun t k => (by
      refine XS.bipush X128.here hx rfl (hb hby at_235) ?_
      refine XS.ixor X128.here hx rfl (hb hby at_237) rfl ?_
      refine XS.i2c X128.here hx rfl (hb hby at_238) rfl ?_
      refine XS.istore X128.here hx rfl (hb hby at_239) rfl (l' := #[sI p0, sI p1, sI p2, sI 0, sR a4, sR dv, sI 11, sI v7, sI v8, sI 8, .unset, .unset, sI 69]) rfl ?_
      exact k)
    exact own_sglfD l Z a0 hw hst p0 p1 p2 dv pd h0 n0 a4 ua v7 v8 (8 : Int32) (69 : Int32) hx hby hret hlk hml hnm hS0 hh hZ hown X128 hh128 hk0 Ch0 N128 Xo0 KK0 hR hS (Or.inr (Or.inr (Or.inr (Or.inr (Or.inr (Or.inr (Or.inr (Or.inr (Or.inl ⟨rfl, rfl⟩)))))))))
  · skip
    subst hcv110_9
    refine own_to (V := T0.setTop (mkF m 232 #[sI p0, sI p1, sI p2, sI 0, sR a4, sR dv, sI 11, sI v7, sI v8, sI 9, .unset, .unset, .unset] [(.int 9), (.ref a4)])) ?_ fun t k => (by
      refine XS.aload X0.here hx rfl (hb hby at_228) rfl rfl ?_
      refine XS.iload X0.here hx rfl (hb hby at_230) rfl ?_
      exact k)
    obtain ⟨sN131, sk131, sv131, sE131, sV131, sC131, sK131, sc131, sb131, sl131⟩ := own_Str.latin hS (own_lat2 (own_allS (by decide) (own_allS (by decide) (own_allS (by decide) (own_allS (by decide) (own_allS (by decide) (own_allS (by decide) (own_allS (by decide) (own_allS (by decide) (own_allS (by decide) (own_allS (by decide) (own_allS (by decide) own_all0))))))))))))
    obtain ⟨cq130, kq130, q130a, q130b, q130c⟩ := isOf hZ e0 hS.1
    obtain ⟨_, _, ⟨T130, L130, k130, n130⟩, -, X130, ⟨Lc130, hQ130, l130, y130, z130⟩, st130⟩ := X0.virtualBack hx (y := own_mn2) (z := own_mn2) hown (mvT hZ (own_i hw 33 rfl)) (mvT hZ (own_i hw 34 rfl)) (notFace_of_selects (args := #[]) (mvT hZ (own_i hw 36 rfl))) (mvT hZ (own_i hw 36 rfl)) (mvT hZ (own_i hw 35 rfl)) (by decide) (StrChars.Road.chN (W := 0) hZ (own_hch hw) (kI := 4) (own_i hw 2 rfl) sE131 sV131 sC131 sK131 sc131 sb131 (O2.ext Xo0.2) P5 (O4.ext Xo0.2) rG3 sl131 (i := 9) (Nat.le_of_ble_eq_true rfl) (j := (9 : Int32)) rfl (by decide) (by decide)) q130a q130c (g := (mkF m 232 #[sI p0, sI p1, sI p2, sI 0, sR a4, sR dv, sI 11, sI v7, sI v8, sI 9, .unset, .unset, .unset] [(.int 9), (.ref a4)])) rfl (by rw [hml]; rfl) (Steps.refl _) (argsL := [(.int 9)]) (rest := []) (lenOf own_pd1 rfl) rfl (by show 2 * 0 + _ ≤ _; exact Nat.le_of_eq rfl) (hb hby at_232) (fun _ _ => ⟨rfl, e0, (by decide : 2 + 0 ≤ _), (by decide : 50 + 0 ≤ _)⟩)
    dsimp only [own_R, Pt.U, Pt.locs, Pt.cells, Pt.slots] at X130 l130 y130 z130 st130 hQ130
    subst y130 z130
    obtain ⟨hv130, hL130, hh130⟩ := hQ130
    subst hL130
    have N130 : Fr n0 L130 := by rw [l130]; exact Fr.app N0 (Fr.nil n0)
    subst hv130
    refine own_to ?_ (fun t k => st130.trans k)
    refine own_to (V := T130.setTop (mkF m 241 #[sI p0, sI p1, sI p2, sI 0, sR a4, sR dv, sI 11, sI v7, sI v8, sI 9, .unset, .unset, sI 78] [])) ?_ fun t k => (by
      refine XS.bipush X130.here hx rfl (hb hby at_235) ?_
      refine XS.ixor X130.here hx rfl (hb hby at_237) rfl ?_
      refine XS.i2c X130.here hx rfl (hb hby at_238) rfl ?_
      refine XS.istore X130.here hx rfl (hb hby at_239) rfl (l' := #[sI p0, sI p1, sI p2, sI 0, sR a4, sR dv, sI 11, sI v7, sI v8, sI 9, .unset, .unset, sI 78]) rfl ?_
      exact k)
    exact own_sglfD l Z a0 hw hst p0 p1 p2 dv pd h0 n0 a4 ua v7 v8 (9 : Int32) (78 : Int32) hx hby hret hlk hml hnm hS0 hh hZ hown X130 hh130 hk0 Ch0 N130 Xo0 KK0 hR hS (Or.inr (Or.inr (Or.inr (Or.inr (Or.inr (Or.inr (Or.inr (Or.inr (Or.inr (Or.inl ⟨rfl, rfl⟩))))))))))
  · skip
    subst hcv111_10
    refine own_to (V := T0.setTop (mkF m 232 #[sI p0, sI p1, sI p2, sI 0, sR a4, sR dv, sI 11, sI v7, sI v8, sI 10, .unset, .unset, .unset] [(.int 10), (.ref a4)])) ?_ fun t k => (by
      refine XS.aload X0.here hx rfl (hb hby at_228) rfl rfl ?_
      refine XS.iload X0.here hx rfl (hb hby at_230) rfl ?_
      exact k)
    obtain ⟨sN133, sk133, sv133, sE133, sV133, sC133, sK133, sc133, sb133, sl133⟩ := own_Str.latin hS (own_lat2 (own_allS (by decide) (own_allS (by decide) (own_allS (by decide) (own_allS (by decide) (own_allS (by decide) (own_allS (by decide) (own_allS (by decide) (own_allS (by decide) (own_allS (by decide) (own_allS (by decide) (own_allS (by decide) own_all0))))))))))))
    obtain ⟨cq132, kq132, q132a, q132b, q132c⟩ := isOf hZ e0 hS.1
    obtain ⟨_, _, ⟨T132, L132, k132, n132⟩, -, X132, ⟨Lc132, hQ132, l132, y132, z132⟩, st132⟩ := X0.virtualBack hx (y := own_mn2) (z := own_mn2) hown (mvT hZ (own_i hw 33 rfl)) (mvT hZ (own_i hw 34 rfl)) (notFace_of_selects (args := #[]) (mvT hZ (own_i hw 36 rfl))) (mvT hZ (own_i hw 36 rfl)) (mvT hZ (own_i hw 35 rfl)) (by decide) (StrChars.Road.chN (W := 0) hZ (own_hch hw) (kI := 4) (own_i hw 2 rfl) sE133 sV133 sC133 sK133 sc133 sb133 (O2.ext Xo0.2) P5 (O4.ext Xo0.2) rG3 sl133 (i := 10) (Nat.le_of_ble_eq_true rfl) (j := (10 : Int32)) rfl (by decide) (by decide)) q132a q132c (g := (mkF m 232 #[sI p0, sI p1, sI p2, sI 0, sR a4, sR dv, sI 11, sI v7, sI v8, sI 10, .unset, .unset, .unset] [(.int 10), (.ref a4)])) rfl (by rw [hml]; rfl) (Steps.refl _) (argsL := [(.int 10)]) (rest := []) (lenOf own_pd1 rfl) rfl (by show 2 * 0 + _ ≤ _; exact Nat.le_of_eq rfl) (hb hby at_232) (fun _ _ => ⟨rfl, e0, (by decide : 2 + 0 ≤ _), (by decide : 50 + 0 ≤ _)⟩)
    dsimp only [own_R, Pt.U, Pt.locs, Pt.cells, Pt.slots] at X132 l132 y132 z132 st132 hQ132
    subst y132 z132
    obtain ⟨hv132, hL132, hh132⟩ := hQ132
    subst hL132
    have N132 : Fr n0 L132 := by rw [l132]; exact Fr.app N0 (Fr.nil n0)
    subst hv132
    refine own_to ?_ (fun t k => st132.trans k)
    refine own_to (V := T132.setTop (mkF m 241 #[sI p0, sI p1, sI p2, sI 0, sR a4, sR dv, sI 11, sI v7, sI v8, sI 10, .unset, .unset, sI 84] [])) ?_ fun t k => (by
      refine XS.bipush X132.here hx rfl (hb hby at_235) ?_
      refine XS.ixor X132.here hx rfl (hb hby at_237) rfl ?_
      refine XS.i2c X132.here hx rfl (hb hby at_238) rfl ?_
      refine XS.istore X132.here hx rfl (hb hby at_239) rfl (l' := #[sI p0, sI p1, sI p2, sI 0, sR a4, sR dv, sI 11, sI v7, sI v8, sI 10, .unset, .unset, sI 84]) rfl ?_
      exact k)
    exact own_sglfD l Z a0 hw hst p0 p1 p2 dv pd h0 n0 a4 ua v7 v8 (10 : Int32) (84 : Int32) hx hby hret hlk hml hnm hS0 hh hZ hown X132 hh132 hk0 Ch0 N132 Xo0 KK0 hR hS (Or.inr (Or.inr (Or.inr (Or.inr (Or.inr (Or.inr (Or.inr (Or.inr (Or.inr (Or.inr ⟨rfl, rfl⟩))))))))))
set_option maxRecDepth 65536 in
set_option maxHeartbeats 40000000 in
theorem own_sglD (l : Launch) (Z : State) (a0 : Array Value) (hw : ∀ d ∈ tables_1, d.before a0 Z = true) (hst : own_St Z) (p0 : Int32) (p1 : Int32) (p2 : Int32) (dv : Addr) (pd : Addr) (h0 : Heap) (n0 : Nat) (a4 : Addr) (ua : Addr)
    {p : Program} {e : Env} {s : State} {m : MethodId} {args : Array Value} {below : List Frame} {meth : Method} {c : Code} (hx : p.tables.exec = Jvm.exec) (hby : c.code = code) (hret : meth.sig.returnType = ret) (hlk : meth.locks = false) (hml : c.maxLocals = 13) (hnm : meth.name = "law") {vm0 : Vm} {k0 : Nat} (hS0 : s.Since vm0 k0) (hh : s.heap = h0) (hZ : Z.Warmed39 (s.setVm vm0).vm) (hown : (s.setVm vm0).vm.findClass "com/example/tallowlark/tallowlark/server/StageFromArgumentPinLaw" = some m.cls)
    {T0 : State} {locs : List Loc} {h : Heap} (X0 : Stand p l e room_1 (s.setVm vm0) m args below meth c T0 locs 2 50) (e0 : T0.heap = h) (hk0 : k0 ≤ h.size) (Ch0 : CHr Z consts_1 s.vm h0 vm0 h) (N0 : Fr n0 locs) (Xo0 : Old Z n0 h) (KK0 : Keep h0 h []) (hR : own_Stg Z dv pd) (hS : own_Str Z h a4 ua ([(68 : Int32), (101 : Int32), (118 : Int32), (101 : Int32), (108 : Int32), (111 : Int32), (112 : Int32), (109 : Int32), (101 : Int32), (110 : Int32), (116 : Int32)] : List Int32)) :
    own_Go p e below (own_PostH Z s (own_Qlaw Z p0 p1 p2 dv pd h0 n0) room_1.cells room_1.slots) (T0.setTop (mkF m 40 #[sI p0, sI p1, sI p2, sI 0, sR a4, sR dv, .unset, .unset, .unset, .unset, .unset, .unset, .unset] [])) := by
  obtain ⟨⟨G1, O2, P5⟩, ⟨G3, O4, rG3⟩, -⟩ := id hst
  obtain ⟨oD, oP, eD, eP, va, kV, sd, ud, sp, up, oV, eV, aV, fD, fP, sD, sP⟩ := id hR
  refine own_to (V := T0.setTop (mkF m 42 #[sI p0, sI p1, sI p2, sI 0, sR a4, sR dv, .unset, .unset, .unset, .unset, .unset, .unset, .unset] [(.ref a4)])) ?_ fun t k => (by
    refine XS.aload X0.here hx rfl (hb hby at_40) rfl rfl ?_
    exact k)
  obtain ⟨sE102, sd102, sN102, sk102, sv102, sV102, sC102, sK102, sc102, sb102, sl102⟩ := id hS
  obtain ⟨cq101, kq101, q101a, q101b, q101c⟩ := isOf hZ e0 hS.1
  obtain ⟨_, _, ⟨T101, L101, k101, n101⟩, -, X101, ⟨Lc101, hQ101, l101, y101, z101⟩, st101⟩ := X0.virtualBack hx (y := own_mn1) (z := own_mn1) hown (mvT hZ (own_i hw 11 rfl)) (mvT hZ (own_i hw 12 rfl)) (notFace_of_selects (args := #[]) (mvT hZ (own_i hw 14 rfl))) (mvT hZ (own_i hw 14 rfl)) (mvT hZ (own_i hw 13 rfl)) (by decide) (StrChars.Road.lenW (W := 0) hZ (own_hln hw) (kI := 4) (own_i hw 2 rfl) sE102 sV102 sC102 sK102 sc102 sb102 (O2.ext Xo0.2) P5 sl102 (by decide) (by decide)) q101a q101c (g := (mkF m 42 #[sI p0, sI p1, sI p2, sI 0, sR a4, sR dv, .unset, .unset, .unset, .unset, .unset, .unset, .unset] [(.ref a4)])) rfl (by rw [hml]; rfl) (Steps.refl _) (argsL := []) (rest := []) (lenOf own_pd0 rfl) rfl (by show 2 * 0 + _ ≤ _; exact Nat.le_of_eq rfl) (hb hby at_42) (fun _ _ => ⟨rfl, e0, (by decide : 2 + 0 ≤ _), (by decide : 50 + 0 ≤ _)⟩)
  dsimp only [own_R, Pt.U, Pt.locs, Pt.cells, Pt.slots] at X101 l101 y101 z101 st101 hQ101
  subst y101 z101
  obtain ⟨hv101, hL101, hh101⟩ := hQ101
  subst hL101
  have N101 : Fr n0 L101 := by rw [l101]; exact Fr.app N0 (Fr.nil n0)
  subst hv101
  refine own_to ?_ (fun t k => st101.trans k)
  obtain ⟨x103, hx103⟩ : ∃ z : Int32, z = (((p0.toUInt32 >>> ((1 : Int32) &&& 31).toUInt32).toInt32) &&& (7 : Int32)) := ⟨_, rfl⟩
  refine own_to (V := T101.setTop (mkF m 55 #[sI p0, sI p1, sI p2, sI 0, sR a4, sR dv, sI 11, sI x103, .unset, .unset, .unset, .unset, .unset] [])) ?_ fun t k => (by
    first | rw [hx103] at k | skip
    refine XS.istore X101.here hx rfl (hb hby at_45) rfl (l' := #[sI p0, sI p1, sI p2, sI 0, sR a4, sR dv, sI 11, .unset, .unset, .unset, .unset, .unset, .unset]) rfl ?_
    refine XS.iloadN X101.here hx rfl (hb hby at_47) rfl ?_
    refine XS.iconst X101.here hx rfl (hb hby at_48) ?_
    refine XS.iushr X101.here hx rfl (hb hby at_49) rfl ?_
    refine XS.bipush X101.here hx rfl (hb hby at_50) ?_
    refine XS.iand X101.here hx rfl (hb hby at_52) rfl ?_
    refine XS.istore X101.here hx rfl (hb hby at_53) rfl (l' := #[sI p0, sI p1, sI p2, sI 0, sR a4, sR dv, sI 11, sI (((p0.toUInt32 >>> ((1 : Int32) &&& 31).toUInt32).toInt32) &&& (7 : Int32)), .unset, .unset, .unset, .unset, .unset]) rfl ?_
    exact k)
  obtain ⟨c104, hc104⟩ : ∃ z : Int32, z = ((p2 &&& (255 : Int32)).toUInt32.toUInt16.toUInt32.toInt32) := ⟨_, rfl⟩
  have rc_c104 : ¬ c104 < 0 ∧ ¬ (65535 : Int32) < c104 := by rw [hc104]; exact own_i2c_rng _
  have rb_c104 : ¬ c104 < 0 ∧ ¬ (255 : Int32) < c104 := by rw [hc104]; exact own_and255 _
  refine own_to (V := T101.setTop (mkF m 61 #[sI p0, sI p1, sI p2, sI 0, sR a4, sR dv, sI 11, sI x103, .unset, .unset, .unset, .unset, .unset] [(.int c104)])) ?_ fun t k => (by
    first | rw [hc104] at k | skip
    refine XS.iloadN X101.here hx rfl (hb hby at_55) rfl ?_
    refine XS.sipush X101.here hx rfl (hb hby at_56) ?_
    refine XS.iand X101.here hx rfl (hb hby at_59) rfl ?_
    refine XS.i2c X101.here hx rfl (hb hby at_60) rfl ?_
    exact k)
  refine own_to (V := T101.setTop (mkF m 64 #[sI p0, sI p1, sI p2, sI 0, sR a4, sR dv, sI 11, sI x103, sI c104, .unset, .unset, .unset, .unset] [(.int p1)])) ?_ fun t k => (by
    refine XS.istore X101.here hx rfl (hb hby at_61) rfl (l' := #[sI p0, sI p1, sI p2, sI 0, sR a4, sR dv, sI 11, sI x103, sI c104, .unset, .unset, .unset, .unset]) rfl ?_
    refine XS.iloadN X101.here hx rfl (hb hby at_63) rfl ?_
    exact k)
  refine own_to (V := T101.setTop (mkF m 66 #[sI p0, sI p1, sI p2, sI 0, sR a4, sR dv, sI 11, sI x103, sI c104, .unset, .unset, .unset, .unset] [(.int 2147483647), (.int p1)])) ?_ (fun t k => X101.ldcInt hx hown (mvT hZ (own_i hw 24 rfl)) (g := (mkF m 64 #[sI p0, sI p1, sI p2, sI 0, sR a4, sR dv, sI 11, sI x103, sI c104, .unset, .unset, .unset, .unset] [(.int p1)])) rfl (hb hby at_64) t k)
  obtain ⟨x105, hx105⟩ : ∃ z : Int32, z = ((p1 &&& (2147483647 : Int32)) % (11 : Int32)) := ⟨_, rfl⟩
  refine own_to (V := T101.setTop (mkF m 72 #[sI p0, sI p1, sI p2, sI 0, sR a4, sR dv, sI 11, sI x103, sI c104, sI x105, .unset, .unset, .unset] [])) ?_ fun t k => (by
    first | rw [hx105] at k | skip
    refine XS.iand X101.here hx rfl (hb hby at_66) rfl ?_
    refine XS.iload X101.here hx rfl (hb hby at_67) rfl ?_
    refine own_irem X101.here hx rfl (hb hby at_69) rfl (by decide) ?_
    refine XS.istore X101.here hx rfl (hb hby at_70) rfl (l' := #[sI p0, sI p1, sI p2, sI 0, sR a4, sR dv, sI 11, sI x103, sI c104, sI ((p1 &&& (2147483647 : Int32)) % (11 : Int32)), .unset, .unset, .unset]) rfl ?_
    exact k)
  rcases (show x103 = 0 ∨ x103 = 1 ∨ x103 = 2 ∨ x103 = 3 ∨ x103 = 4 ∨ x103 = 5 ∨ x103 = 6 ∨ x103 = 7 from by rw [hx103]; exact own_and7 _) with hcv106_0 | hcv107_1 | hcv108_2 | hcv109_3 | hcv110_4 | hcv111_5 | hcv112_6 | hcv113_7
  · skip
    subst hcv106_0
    refine own_to (V := T101.setTop (mkF m 84 #[sI p0, sI p1, sI p2, sI 0, sR a4, sR dv, sI 11, sI 0, sI c104, sI x105, .unset, .unset, .unset] [(.int c104), (.int (-1)), (.int 11), (.ref a4)])) ?_ fun t k => (by
      refine XS.iload X101.here hx rfl (hb hby at_72) rfl ?_
      refine XS.ifNo X101.here hx rfl (hb hby at_74) rfl ((if0 _ _).trans (teq ((by decide) : (0 : Int32) = (0 : Int32))).2) ?_
      refine XS.aload X101.here hx rfl (hb hby at_77) rfl rfl ?_
      refine XS.iload X101.here hx rfl (hb hby at_79) rfl ?_
      refine XS.iconst X101.here hx rfl (hb hby at_81) ?_
      refine XS.iload X101.here hx rfl (hb hby at_82) rfl ?_
      exact k)
    obtain ⟨_, _, ⟨T114, L114, k114, n114⟩, -, X114, ⟨Lc114, hQ114, l114, y114, z114⟩, st114⟩ := Jvm.LawKit.callS X101 hx (y := own_mn3) hown (mvT hZ (own_i hw 25 rfl)) (mvT hZ (own_i hw 26 rfl)) (mvT hZ (own_i hw 27 rfl)) (mvT hZ (own_i hw 28 rfl)) (by decide) (backOf (W := 0) (own_rmmkD11 l Z a0 hw hst [] a4 ua (-1 : Int32) c104 h n0 Xo0 hS rb_c104) hZ (own_i hw 28 rfl) (own_i hw 27 rfl) (by decide) (by decide)) (g := (mkF m 84 #[sI p0, sI p1, sI p2, sI 0, sR a4, sR dv, sI 11, sI 0, sI c104, sI x105, .unset, .unset, .unset] [(.int c104), (.int (-1)), (.int 11), (.ref a4)])) rfl (by rw [hml]; rfl) (argsL := [(.ref a4), (.int 11), (.int (-1)), (.int c104)]) (rest := []) (lenOf own_pd7 rfl) rfl (by show 2 * 0 + _ ≤ _; exact Nat.le_of_eq rfl) (hb hby at_84) (fun _ _ => ⟨rfl, hh101, (by decide : 2 + 3 ≤ _), (by decide : 50 + 26 ≤ _)⟩)
    dsimp only [own_R, Pt.U, Pt.locs, Pt.cells, Pt.slots] at X114 l114 y114 z114 st114 hQ114
    subst y114 z114
    obtain ⟨oo114, ou114, hv114, N114q, K114, g114_0⟩ := hQ114
    subst hv114
    obtain ⟨h114, e114⟩ : ∃ z, T114.heap = z := ⟨_, rfl⟩
    rw [e114] at K114 g114_0
    have Cs114 : CHr Z consts_1 vm0 h vm0 h114 := CHr.keep K114 sf0 Ch0.1
    have Ch114 := Ch0.trans Cs114
    have Xo114 := Xo0.keep K114 all0
    have KK114 := KK0.trans K114 all0
    have N114 : Fr n0 L114 := by rw [l114]; exact Fr.app N101 N114q
    refine own_to ?_ st114
    refine own_to (V := T114.setTop (mkF m 257 #[sI p0, sI p1, sI p2, sI 0, sR a4, sR dv, sI 11, sI 0, sI c104, sI x105, sR oo114, sR dv, .unset] [])) ?_ fun t k => (by
      refine XS.astore X114.here hx rfl (hb hby at_87) rfl rfl (l' := #[sI p0, sI p1, sI p2, sI 0, sR a4, sR dv, sI 11, sI 0, sI c104, sI x105, sR oo114, .unset, .unset]) rfl ?_
      refine XS.aload X114.here hx rfl (hb hby at_89) rfl rfl ?_
      refine XS.astore X114.here hx rfl (hb hby at_91) rfl rfl (l' := #[sI p0, sI p1, sI p2, sI 0, sR a4, sR dv, sI 11, sI 0, sI c104, sI x105, sR oo114, sR dv, .unset]) rfl ?_
      refine XS.goto X114.here hx rfl (pc0 := 93) (pc' := 257) rfl (hb hby at_93) (by decide) (by decide) ?_
      exact k)
    exact own_sglr l Z a0 hw hst p0 p1 p2 dv pd h0 n0 (0 : Int32) a4 dv (11 : Int32) (0 : Int32) c104 x105 .unset oo114 ou114 (.ref dv) ([(own_at (0 : Int32) (-1 : Int32) c104 (68 : Int32)), (own_at (1 : Int32) (-1 : Int32) c104 (101 : Int32)), (own_at (2 : Int32) (-1 : Int32) c104 (118 : Int32)), (own_at (3 : Int32) (-1 : Int32) c104 (101 : Int32)), (own_at (4 : Int32) (-1 : Int32) c104 (108 : Int32)), (own_at (5 : Int32) (-1 : Int32) c104 (111 : Int32)), (own_at (6 : Int32) (-1 : Int32) c104 (112 : Int32)), (own_at (7 : Int32) (-1 : Int32) c104 (109 : Int32)), (own_at (8 : Int32) (-1 : Int32) c104 (101 : Int32)), (own_at (9 : Int32) (-1 : Int32) c104 (110 : Int32)), (own_at (10 : Int32) (-1 : Int32) c104 (116 : Int32))] : List Int32) hx hby hret hlk hml hnm hS0 hh hZ hown (X114.wide (L' := _) (cells' := 12) (slots' := 200) (fun x hx _ => hx) (by decide) (by decide)) e114 (Nat.le_trans hk0 K114.1) Ch114 N114 Xo114 KK114 hR rfl g114_0 (Or.inl ⟨rfl, rfl⟩)
  · skip
    subst hcv107_1
    refine own_to (V := T101.setTop (mkF m 108 #[sI p0, sI p1, sI p2, sI 0, sR a4, sR dv, sI 11, sI 1, sI c104, sI x105, .unset, .unset, .unset] [])) ?_ fun t k => (by
      refine XS.iload X101.here hx rfl (hb hby at_72) rfl ?_
      refine XS.ifYes X101.here hx rfl (pc0 := 74) (pc' := 96) rfl (hb hby at_74) rfl ((if0 _ _).trans (feq ((by decide) : ¬ ((1 : Int32) = (0 : Int32)))).2) (by decide) (by decide) ?_
      refine XS.iload X101.here hx rfl (hb hby at_96) rfl ?_
      refine XS.iconst X101.here hx rfl (hb hby at_98) ?_
      refine XS.icmpYes X101.here hx rfl (pc0 := 99) (pc' := 108) rfl (hb hby at_99) rfl (teq ((by decide) : (1 : Int32) = (1 : Int32))).1 (by decide) (by decide) ?_
      exact k)
    exact own_sglbD l Z a0 hw hst p0 p1 p2 dv pd h0 n0 a4 ua (1 : Int32) c104 x105 hx hby hret hlk hml hnm hS0 hh hZ hown X101 hh101 hk0 Ch0 N101 Xo0 KK0 hR hS (show x105 = (0 : Int32) ∨ x105 = (1 : Int32) ∨ x105 = (2 : Int32) ∨ x105 = (3 : Int32) ∨ x105 = (4 : Int32) ∨ x105 = (5 : Int32) ∨ x105 = (6 : Int32) ∨ x105 = (7 : Int32) ∨ x105 = (8 : Int32) ∨ x105 = (9 : Int32) ∨ x105 = (10 : Int32) from by rw [hx105]; exact own_rem11 _) rb_c104
  · skip
    subst hcv108_2
    refine own_to (V := T101.setTop (mkF m 108 #[sI p0, sI p1, sI p2, sI 0, sR a4, sR dv, sI 11, sI 2, sI c104, sI x105, .unset, .unset, .unset] [])) ?_ fun t k => (by
      refine XS.iload X101.here hx rfl (hb hby at_72) rfl ?_
      refine XS.ifYes X101.here hx rfl (pc0 := 74) (pc' := 96) rfl (hb hby at_74) rfl ((if0 _ _).trans (feq ((by decide) : ¬ ((2 : Int32) = (0 : Int32)))).2) (by decide) (by decide) ?_
      refine XS.iload X101.here hx rfl (hb hby at_96) rfl ?_
      refine XS.iconst X101.here hx rfl (hb hby at_98) ?_
      refine XS.icmpNo X101.here hx rfl (hb hby at_99) rfl (feq ((by decide) : ¬ ((2 : Int32) = (1 : Int32)))).1 ?_
      refine XS.iload X101.here hx rfl (hb hby at_102) rfl ?_
      refine XS.iconst X101.here hx rfl (hb hby at_104) ?_
      refine XS.icmpNo X101.here hx rfl (hb hby at_105) rfl (teq ((by decide) : (2 : Int32) = (2 : Int32))).2 ?_
      exact k)
    exact own_sglbD l Z a0 hw hst p0 p1 p2 dv pd h0 n0 a4 ua (2 : Int32) c104 x105 hx hby hret hlk hml hnm hS0 hh hZ hown X101 hh101 hk0 Ch0 N101 Xo0 KK0 hR hS (show x105 = (0 : Int32) ∨ x105 = (1 : Int32) ∨ x105 = (2 : Int32) ∨ x105 = (3 : Int32) ∨ x105 = (4 : Int32) ∨ x105 = (5 : Int32) ∨ x105 = (6 : Int32) ∨ x105 = (7 : Int32) ∨ x105 = (8 : Int32) ∨ x105 = (9 : Int32) ∨ x105 = (10 : Int32) from by rw [hx105]; exact own_rem11 _) rb_c104
  · skip
    subst hcv109_3
    refine own_to (V := T101.setTop (mkF m 159 #[sI p0, sI p1, sI p2, sI 0, sR a4, sR dv, sI 11, sI 3, sI c104, sI x105, .unset, .unset, .unset] [(.int c104), (.int (-1)), (.int 10), (.ref a4)])) ?_ fun t k => (by
      refine XS.iload X101.here hx rfl (hb hby at_72) rfl ?_
      refine XS.ifYes X101.here hx rfl (pc0 := 74) (pc' := 96) rfl (hb hby at_74) rfl ((if0 _ _).trans (feq ((by decide) : ¬ ((3 : Int32) = (0 : Int32)))).2) (by decide) (by decide) ?_
      refine XS.iload X101.here hx rfl (hb hby at_96) rfl ?_
      refine XS.iconst X101.here hx rfl (hb hby at_98) ?_
      refine XS.icmpNo X101.here hx rfl (hb hby at_99) rfl (feq ((by decide) : ¬ ((3 : Int32) = (1 : Int32)))).1 ?_
      refine XS.iload X101.here hx rfl (hb hby at_102) rfl ?_
      refine XS.iconst X101.here hx rfl (hb hby at_104) ?_
      refine XS.icmpYes X101.here hx rfl (pc0 := 105) (pc' := 144) rfl (hb hby at_105) rfl (feq ((by decide) : ¬ ((3 : Int32) = (2 : Int32)))).2 (by decide) (by decide) ?_
      refine XS.iload X101.here hx rfl (hb hby at_144) rfl ?_
      refine XS.iconst X101.here hx rfl (hb hby at_146) ?_
      refine XS.icmpNo X101.here hx rfl (hb hby at_147) rfl (teq ((by decide) : (3 : Int32) = (3 : Int32))).2 ?_
      refine XS.aload X101.here hx rfl (hb hby at_150) rfl rfl ?_
      refine XS.iload X101.here hx rfl (hb hby at_152) rfl ?_
      refine XS.iconst X101.here hx rfl (hb hby at_154) ?_
      refine XS.isub X101.here hx rfl (hb hby at_155) rfl ?_
      refine XS.iconst X101.here hx rfl (hb hby at_156) ?_
      refine XS.iload X101.here hx rfl (hb hby at_157) rfl ?_
      exact k)
    obtain ⟨_, _, ⟨T115, L115, k115, n115⟩, -, X115, ⟨Lc115, hQ115, l115, y115, z115⟩, st115⟩ := Jvm.LawKit.callS X101 hx (y := own_mn3) hown (mvT hZ (own_i hw 25 rfl)) (mvT hZ (own_i hw 26 rfl)) (mvT hZ (own_i hw 27 rfl)) (mvT hZ (own_i hw 28 rfl)) (by decide) (backOf (W := 0) (own_rmmkD10 l Z a0 hw hst [] a4 ua (-1 : Int32) c104 h n0 Xo0 hS rb_c104) hZ (own_i hw 28 rfl) (own_i hw 27 rfl) (by decide) (by decide)) (g := (mkF m 159 #[sI p0, sI p1, sI p2, sI 0, sR a4, sR dv, sI 11, sI 3, sI c104, sI x105, .unset, .unset, .unset] [(.int c104), (.int (-1)), (.int 10), (.ref a4)])) rfl (by rw [hml]; rfl) (argsL := [(.ref a4), (.int 10), (.int (-1)), (.int c104)]) (rest := []) (lenOf own_pd7 rfl) rfl (by show 2 * 0 + _ ≤ _; exact Nat.le_of_eq rfl) (hb hby at_159) (fun _ _ => ⟨rfl, hh101, (by decide : 2 + 3 ≤ _), (by decide : 50 + 24 ≤ _)⟩)
    dsimp only [own_R, Pt.U, Pt.locs, Pt.cells, Pt.slots] at X115 l115 y115 z115 st115 hQ115
    subst y115 z115
    obtain ⟨oo115, ou115, hv115, N115q, K115, g115_0⟩ := hQ115
    subst hv115
    obtain ⟨h115, e115⟩ : ∃ z, T115.heap = z := ⟨_, rfl⟩
    rw [e115] at K115 g115_0
    have Cs115 : CHr Z consts_1 vm0 h vm0 h115 := CHr.keep K115 sf0 Ch0.1
    have Ch115 := Ch0.trans Cs115
    have Xo115 := Xo0.keep K115 all0
    have KK115 := KK0.trans K115 all0
    have N115 : Fr n0 L115 := by rw [l115]; exact Fr.app N101 N115q
    refine own_to ?_ st115
    refine own_to (V := T115.setTop (mkF m 257 #[sI p0, sI p1, sI p2, sI 0, sR a4, sR dv, sI 11, sI 3, sI c104, sI x105, sR oo115, .val .null, .unset] [])) ?_ fun t k => (by
      refine XS.astore X115.here hx rfl (hb hby at_162) rfl rfl (l' := #[sI p0, sI p1, sI p2, sI 0, sR a4, sR dv, sI 11, sI 3, sI c104, sI x105, sR oo115, .unset, .unset]) rfl ?_
      refine XS.aconstNull X115.here hx rfl (hb hby at_164) ?_
      refine XS.astore X115.here hx rfl (hb hby at_165) rfl rfl (l' := #[sI p0, sI p1, sI p2, sI 0, sR a4, sR dv, sI 11, sI 3, sI c104, sI x105, sR oo115, .val .null, .unset]) rfl ?_
      refine XS.goto X115.here hx rfl (pc0 := 167) (pc' := 257) rfl (hb hby at_167) (by decide) (by decide) ?_
      exact k)
    exact own_sglr l Z a0 hw hst p0 p1 p2 dv pd h0 n0 (0 : Int32) a4 dv (11 : Int32) (3 : Int32) c104 x105 .unset oo115 ou115 .null ([(own_at (0 : Int32) (-1 : Int32) c104 (68 : Int32)), (own_at (1 : Int32) (-1 : Int32) c104 (101 : Int32)), (own_at (2 : Int32) (-1 : Int32) c104 (118 : Int32)), (own_at (3 : Int32) (-1 : Int32) c104 (101 : Int32)), (own_at (4 : Int32) (-1 : Int32) c104 (108 : Int32)), (own_at (5 : Int32) (-1 : Int32) c104 (111 : Int32)), (own_at (6 : Int32) (-1 : Int32) c104 (112 : Int32)), (own_at (7 : Int32) (-1 : Int32) c104 (109 : Int32)), (own_at (8 : Int32) (-1 : Int32) c104 (101 : Int32)), (own_at (9 : Int32) (-1 : Int32) c104 (110 : Int32))] : List Int32) hx hby hret hlk hml hnm hS0 hh hZ hown (X115.wide (L' := _) (cells' := 12) (slots' := 200) (fun x hx _ => hx) (by decide) (by decide)) e115 (Nat.le_trans hk0 K115.1) Ch115 N115 Xo115 KK115 hR rfl g115_0 (Or.inr (Or.inr ⟨(fun q => absurd (show (11 : Nat) = 10 from congrArg List.length q) (by decide)), (fun q => absurd (show (80 : Int32) = 68 from congrArg (fun l : List Int32 => l.getD 0 0) q) (by decide)), rfl⟩))
  · skip
    subst hcv110_4
    refine own_to (V := T101.setTop (mkF m 185 #[sI p0, sI p1, sI p2, sI 0, sR a4, sR dv, sI 11, sI 4, sI c104, sI x105, .unset, .unset, .unset] [(.int c104), (.int (-1)), (.int 12), (.ref a4)])) ?_ fun t k => (by
      refine XS.iload X101.here hx rfl (hb hby at_72) rfl ?_
      refine XS.ifYes X101.here hx rfl (pc0 := 74) (pc' := 96) rfl (hb hby at_74) rfl ((if0 _ _).trans (feq ((by decide) : ¬ ((4 : Int32) = (0 : Int32)))).2) (by decide) (by decide) ?_
      refine XS.iload X101.here hx rfl (hb hby at_96) rfl ?_
      refine XS.iconst X101.here hx rfl (hb hby at_98) ?_
      refine XS.icmpNo X101.here hx rfl (hb hby at_99) rfl (feq ((by decide) : ¬ ((4 : Int32) = (1 : Int32)))).1 ?_
      refine XS.iload X101.here hx rfl (hb hby at_102) rfl ?_
      refine XS.iconst X101.here hx rfl (hb hby at_104) ?_
      refine XS.icmpYes X101.here hx rfl (pc0 := 105) (pc' := 144) rfl (hb hby at_105) rfl (feq ((by decide) : ¬ ((4 : Int32) = (2 : Int32)))).2 (by decide) (by decide) ?_
      refine XS.iload X101.here hx rfl (hb hby at_144) rfl ?_
      refine XS.iconst X101.here hx rfl (hb hby at_146) ?_
      refine XS.icmpYes X101.here hx rfl (pc0 := 147) (pc' := 170) rfl (hb hby at_147) rfl (feq ((by decide) : ¬ ((4 : Int32) = (3 : Int32)))).2 (by decide) (by decide) ?_
      refine XS.iload X101.here hx rfl (hb hby at_170) rfl ?_
      refine XS.iconst X101.here hx rfl (hb hby at_172) ?_
      refine XS.icmpNo X101.here hx rfl (hb hby at_173) rfl (teq ((by decide) : (4 : Int32) = (4 : Int32))).2 ?_
      refine XS.aload X101.here hx rfl (hb hby at_176) rfl rfl ?_
      refine XS.iload X101.here hx rfl (hb hby at_178) rfl ?_
      refine XS.iconst X101.here hx rfl (hb hby at_180) ?_
      refine XS.iadd X101.here hx rfl (hb hby at_181) rfl ?_
      refine XS.iconst X101.here hx rfl (hb hby at_182) ?_
      refine XS.iload X101.here hx rfl (hb hby at_183) rfl ?_
      exact k)
    obtain ⟨_, _, ⟨T116, L116, k116, n116⟩, -, X116, ⟨Lc116, hQ116, l116, y116, z116⟩, st116⟩ := Jvm.LawKit.callS X101 hx (y := own_mn3) hown (mvT hZ (own_i hw 25 rfl)) (mvT hZ (own_i hw 26 rfl)) (mvT hZ (own_i hw 27 rfl)) (mvT hZ (own_i hw 28 rfl)) (by decide) (backOf (W := 0) (own_rmmkD12 l Z a0 hw hst [] a4 ua (-1 : Int32) c104 h n0 Xo0 hS rb_c104) hZ (own_i hw 28 rfl) (own_i hw 27 rfl) (by decide) (by decide)) (g := (mkF m 185 #[sI p0, sI p1, sI p2, sI 0, sR a4, sR dv, sI 11, sI 4, sI c104, sI x105, .unset, .unset, .unset] [(.int c104), (.int (-1)), (.int 12), (.ref a4)])) rfl (by rw [hml]; rfl) (argsL := [(.ref a4), (.int 12), (.int (-1)), (.int c104)]) (rest := []) (lenOf own_pd7 rfl) rfl (by show 2 * 0 + _ ≤ _; exact Nat.le_of_eq rfl) (hb hby at_185) (fun _ _ => ⟨rfl, hh101, (by decide : 2 + 3 ≤ _), (by decide : 50 + 28 ≤ _)⟩)
    dsimp only [own_R, Pt.U, Pt.locs, Pt.cells, Pt.slots] at X116 l116 y116 z116 st116 hQ116
    subst y116 z116
    obtain ⟨oo116, ou116, hv116, N116q, K116, g116_0⟩ := hQ116
    subst hv116
    obtain ⟨h116, e116⟩ : ∃ z, T116.heap = z := ⟨_, rfl⟩
    rw [e116] at K116 g116_0
    have Cs116 : CHr Z consts_1 vm0 h vm0 h116 := CHr.keep K116 sf0 Ch0.1
    have Ch116 := Ch0.trans Cs116
    have Xo116 := Xo0.keep K116 all0
    have KK116 := KK0.trans K116 all0
    have N116 : Fr n0 L116 := by rw [l116]; exact Fr.app N101 N116q
    refine own_to ?_ st116
    refine own_to (V := T116.setTop (mkF m 257 #[sI p0, sI p1, sI p2, sI 0, sR a4, sR dv, sI 11, sI 4, sI c104, sI x105, sR oo116, .val .null, .unset] [])) ?_ fun t k => (by
      refine XS.astore X116.here hx rfl (hb hby at_188) rfl rfl (l' := #[sI p0, sI p1, sI p2, sI 0, sR a4, sR dv, sI 11, sI 4, sI c104, sI x105, sR oo116, .unset, .unset]) rfl ?_
      refine XS.aconstNull X116.here hx rfl (hb hby at_190) ?_
      refine XS.astore X116.here hx rfl (hb hby at_191) rfl rfl (l' := #[sI p0, sI p1, sI p2, sI 0, sR a4, sR dv, sI 11, sI 4, sI c104, sI x105, sR oo116, .val .null, .unset]) rfl ?_
      refine XS.goto X116.here hx rfl (pc0 := 193) (pc' := 257) rfl (hb hby at_193) (by decide) (by decide) ?_
      exact k)
    exact own_sglr l Z a0 hw hst p0 p1 p2 dv pd h0 n0 (0 : Int32) a4 dv (11 : Int32) (4 : Int32) c104 x105 .unset oo116 ou116 .null ([(own_at (0 : Int32) (-1 : Int32) c104 (68 : Int32)), (own_at (1 : Int32) (-1 : Int32) c104 (101 : Int32)), (own_at (2 : Int32) (-1 : Int32) c104 (118 : Int32)), (own_at (3 : Int32) (-1 : Int32) c104 (101 : Int32)), (own_at (4 : Int32) (-1 : Int32) c104 (108 : Int32)), (own_at (5 : Int32) (-1 : Int32) c104 (111 : Int32)), (own_at (6 : Int32) (-1 : Int32) c104 (112 : Int32)), (own_at (7 : Int32) (-1 : Int32) c104 (109 : Int32)), (own_at (8 : Int32) (-1 : Int32) c104 (101 : Int32)), (own_at (9 : Int32) (-1 : Int32) c104 (110 : Int32)), (own_at (10 : Int32) (-1 : Int32) c104 (116 : Int32)), c104] : List Int32) hx hby hret hlk hml hnm hS0 hh hZ hown (X116.wide (L' := _) (cells' := 12) (slots' := 200) (fun x hx _ => hx) (by decide) (by decide)) e116 (Nat.le_trans hk0 K116.1) Ch116 N116 Xo116 KK116 hR rfl g116_0 (Or.inr (Or.inr ⟨(fun q => absurd (show (11 : Nat) = 12 from congrArg List.length q) (by decide)), (fun q => absurd (show (10 : Nat) = 12 from congrArg List.length q) (by decide)), rfl⟩))
  · skip
    subst hcv111_5
    refine own_to (V := T101.setTop (mkF m 202 #[sI p0, sI p1, sI p2, sI 0, sR a4, sR dv, sI 11, sI 5, sI c104, sI x105, .unset, .unset, .unset] [])) ?_ fun t k => (by
      refine XS.iload X101.here hx rfl (hb hby at_72) rfl ?_
      refine XS.ifYes X101.here hx rfl (pc0 := 74) (pc' := 96) rfl (hb hby at_74) rfl ((if0 _ _).trans (feq ((by decide) : ¬ ((5 : Int32) = (0 : Int32)))).2) (by decide) (by decide) ?_
      refine XS.iload X101.here hx rfl (hb hby at_96) rfl ?_
      refine XS.iconst X101.here hx rfl (hb hby at_98) ?_
      refine XS.icmpNo X101.here hx rfl (hb hby at_99) rfl (feq ((by decide) : ¬ ((5 : Int32) = (1 : Int32)))).1 ?_
      refine XS.iload X101.here hx rfl (hb hby at_102) rfl ?_
      refine XS.iconst X101.here hx rfl (hb hby at_104) ?_
      refine XS.icmpYes X101.here hx rfl (pc0 := 105) (pc' := 144) rfl (hb hby at_105) rfl (feq ((by decide) : ¬ ((5 : Int32) = (2 : Int32)))).2 (by decide) (by decide) ?_
      refine XS.iload X101.here hx rfl (hb hby at_144) rfl ?_
      refine XS.iconst X101.here hx rfl (hb hby at_146) ?_
      refine XS.icmpYes X101.here hx rfl (pc0 := 147) (pc' := 170) rfl (hb hby at_147) rfl (feq ((by decide) : ¬ ((5 : Int32) = (3 : Int32)))).2 (by decide) (by decide) ?_
      refine XS.iload X101.here hx rfl (hb hby at_170) rfl ?_
      refine XS.iconst X101.here hx rfl (hb hby at_172) ?_
      refine XS.icmpYes X101.here hx rfl (pc0 := 173) (pc' := 196) rfl (hb hby at_173) rfl (feq ((by decide) : ¬ ((5 : Int32) = (4 : Int32)))).2 (by decide) (by decide) ?_
      refine XS.iload X101.here hx rfl (hb hby at_196) rfl ?_
      refine XS.iconst X101.here hx rfl (hb hby at_198) ?_
      refine XS.icmpNo X101.here hx rfl (hb hby at_199) rfl (teq ((by decide) : (5 : Int32) = (5 : Int32))).2 ?_
      exact k)
    obtain ⟨s117, T117, h117, k117, t117, kb117, X117, e117, E117, hS117, hk117, hZ117, hown117, gE117, gC117, gV117, gK117, la117, lb117, hC117, hL117, hne117, st117⟩ := ldcCH X101 hx hZ hown (own_i hw 108 rfl) (own_hsa hw) hh101 hS0 hk0 (own_hEL hw) (own_mem108) Ch0.1 (vs := ([] : List Value)) (z := (0 : Int32)) ⟨by decide, by decide +kernel⟩ (by decide) (by decide) (g := (mkF m 202 #[sI p0, sI p1, sI p2, sI 0, sR a4, sR dv, sI 11, sI 5, sI c104, sI x105, .unset, .unset, .unset] [])) rfl (hb hby at_202) (n := 0) (by decide) (by decide) (by decide) (by decide)
    have Cs117 : CHr Z consts_1 vm0 h T117.vm h117 := hC117
    have Ch117 := Ch0.trans Cs117
    have Xo117 := Xo0.ext E117
    have KK117 := KK0.ext E117
    have Fs117 : own_Str Z h117 s117 t117 ([] : List Int32) := own_mkLit gE117 gV117 gC117 gK117 (by decide) (by decide) (by decide +kernel) (by decide)
    refine own_to ?_ st117
    refine own_to (V := T117.setTop (mkF m 257 #[sI p0, sI p1, sI p2, sI 0, sR a4, sR dv, sI 11, sI 5, sI c104, sI x105, sR s117, .val .null, .unset] [])) ?_ fun t k => (by
      refine XS.astore X117.here hx rfl (hb hby at_204) rfl rfl (l' := #[sI p0, sI p1, sI p2, sI 0, sR a4, sR dv, sI 11, sI 5, sI c104, sI x105, sR s117, .unset, .unset]) rfl ?_
      refine XS.aconstNull X117.here hx rfl (hb hby at_206) ?_
      refine XS.astore X117.here hx rfl (hb hby at_207) rfl rfl (l' := #[sI p0, sI p1, sI p2, sI 0, sR a4, sR dv, sI 11, sI 5, sI c104, sI x105, sR s117, .val .null, .unset]) rfl ?_
      refine XS.goto X117.here hx rfl (pc0 := 209) (pc' := 257) rfl (hb hby at_209) (by decide) (by decide) ?_
      exact k)
    exact own_sglr l Z a0 hw hst p0 p1 p2 dv pd h0 n0 (0 : Int32) a4 dv (11 : Int32) (5 : Int32) c104 x105 .unset s117 t117 .null ([] : List Int32) hx hby hret hlk hml hnm hS117 hh hZ117 hown117 (X117.wide (L' := _) (cells' := 12) (slots' := 200) (fun x hx _ => hx) (by decide) (by decide)) e117 hk117 Ch117 N101 Xo117 KK117 hR rfl Fs117 (Or.inr (Or.inr ⟨(fun q => absurd (show (11 : Nat) = 0 from congrArg List.length q) (by decide)), (fun q => absurd (show (10 : Nat) = 0 from congrArg List.length q) (by decide)), rfl⟩))
  · skip
    subst hcv112_6
    refine own_to (V := T101.setTop (mkF m 257 #[sI p0, sI p1, sI p2, sI 0, sR a4, sR dv, sI 11, sI 6, sI c104, sI x105, .val .null, .val .null, .unset] [])) ?_ fun t k => (by
      refine XS.iload X101.here hx rfl (hb hby at_72) rfl ?_
      refine XS.ifYes X101.here hx rfl (pc0 := 74) (pc' := 96) rfl (hb hby at_74) rfl ((if0 _ _).trans (feq ((by decide) : ¬ ((6 : Int32) = (0 : Int32)))).2) (by decide) (by decide) ?_
      refine XS.iload X101.here hx rfl (hb hby at_96) rfl ?_
      refine XS.iconst X101.here hx rfl (hb hby at_98) ?_
      refine XS.icmpNo X101.here hx rfl (hb hby at_99) rfl (feq ((by decide) : ¬ ((6 : Int32) = (1 : Int32)))).1 ?_
      refine XS.iload X101.here hx rfl (hb hby at_102) rfl ?_
      refine XS.iconst X101.here hx rfl (hb hby at_104) ?_
      refine XS.icmpYes X101.here hx rfl (pc0 := 105) (pc' := 144) rfl (hb hby at_105) rfl (feq ((by decide) : ¬ ((6 : Int32) = (2 : Int32)))).2 (by decide) (by decide) ?_
      refine XS.iload X101.here hx rfl (hb hby at_144) rfl ?_
      refine XS.iconst X101.here hx rfl (hb hby at_146) ?_
      refine XS.icmpYes X101.here hx rfl (pc0 := 147) (pc' := 170) rfl (hb hby at_147) rfl (feq ((by decide) : ¬ ((6 : Int32) = (3 : Int32)))).2 (by decide) (by decide) ?_
      refine XS.iload X101.here hx rfl (hb hby at_170) rfl ?_
      refine XS.iconst X101.here hx rfl (hb hby at_172) ?_
      refine XS.icmpYes X101.here hx rfl (pc0 := 173) (pc' := 196) rfl (hb hby at_173) rfl (feq ((by decide) : ¬ ((6 : Int32) = (4 : Int32)))).2 (by decide) (by decide) ?_
      refine XS.iload X101.here hx rfl (hb hby at_196) rfl ?_
      refine XS.iconst X101.here hx rfl (hb hby at_198) ?_
      refine XS.icmpYes X101.here hx rfl (pc0 := 199) (pc' := 212) rfl (hb hby at_199) rfl (feq ((by decide) : ¬ ((6 : Int32) = (5 : Int32)))).2 (by decide) (by decide) ?_
      refine XS.iload X101.here hx rfl (hb hby at_212) rfl ?_
      refine XS.bipush X101.here hx rfl (hb hby at_214) ?_
      refine XS.icmpNo X101.here hx rfl (hb hby at_216) rfl (teq ((by decide) : (6 : Int32) = (6 : Int32))).2 ?_
      refine XS.aconstNull X101.here hx rfl (hb hby at_219) ?_
      refine XS.astore X101.here hx rfl (hb hby at_220) rfl rfl (l' := #[sI p0, sI p1, sI p2, sI 0, sR a4, sR dv, sI 11, sI 6, sI c104, sI x105, .val .null, .unset, .unset]) rfl ?_
      refine XS.aconstNull X101.here hx rfl (hb hby at_222) ?_
      refine XS.astore X101.here hx rfl (hb hby at_223) rfl rfl (l' := #[sI p0, sI p1, sI p2, sI 0, sR a4, sR dv, sI 11, sI 6, sI c104, sI x105, .val .null, .val .null, .unset]) rfl ?_
      refine XS.goto X101.here hx rfl (pc0 := 225) (pc' := 257) rfl (hb hby at_225) (by decide) (by decide) ?_
      exact k)
    exact own_sgln l Z a0 hw hst p0 p1 p2 dv pd h0 n0 (0 : Int32) a4 dv (11 : Int32) (6 : Int32) c104 x105 .unset hx hby hret hlk hml hnm hS0 hh hZ hown (X101.wide (L' := _) (cells' := 12) (slots' := 200) (fun x hx _ => hx) (by decide) (by decide)) hh101 hk0 Ch0 N101 Xo0 KK0 hR
  · skip
    subst hcv113_7
    refine own_to (V := T101.setTop (mkF m 228 #[sI p0, sI p1, sI p2, sI 0, sR a4, sR dv, sI 11, sI 7, sI c104, sI x105, .unset, .unset, .unset] [])) ?_ fun t k => (by
      refine XS.iload X101.here hx rfl (hb hby at_72) rfl ?_
      refine XS.ifYes X101.here hx rfl (pc0 := 74) (pc' := 96) rfl (hb hby at_74) rfl ((if0 _ _).trans (feq ((by decide) : ¬ ((7 : Int32) = (0 : Int32)))).2) (by decide) (by decide) ?_
      refine XS.iload X101.here hx rfl (hb hby at_96) rfl ?_
      refine XS.iconst X101.here hx rfl (hb hby at_98) ?_
      refine XS.icmpNo X101.here hx rfl (hb hby at_99) rfl (feq ((by decide) : ¬ ((7 : Int32) = (1 : Int32)))).1 ?_
      refine XS.iload X101.here hx rfl (hb hby at_102) rfl ?_
      refine XS.iconst X101.here hx rfl (hb hby at_104) ?_
      refine XS.icmpYes X101.here hx rfl (pc0 := 105) (pc' := 144) rfl (hb hby at_105) rfl (feq ((by decide) : ¬ ((7 : Int32) = (2 : Int32)))).2 (by decide) (by decide) ?_
      refine XS.iload X101.here hx rfl (hb hby at_144) rfl ?_
      refine XS.iconst X101.here hx rfl (hb hby at_146) ?_
      refine XS.icmpYes X101.here hx rfl (pc0 := 147) (pc' := 170) rfl (hb hby at_147) rfl (feq ((by decide) : ¬ ((7 : Int32) = (3 : Int32)))).2 (by decide) (by decide) ?_
      refine XS.iload X101.here hx rfl (hb hby at_170) rfl ?_
      refine XS.iconst X101.here hx rfl (hb hby at_172) ?_
      refine XS.icmpYes X101.here hx rfl (pc0 := 173) (pc' := 196) rfl (hb hby at_173) rfl (feq ((by decide) : ¬ ((7 : Int32) = (4 : Int32)))).2 (by decide) (by decide) ?_
      refine XS.iload X101.here hx rfl (hb hby at_196) rfl ?_
      refine XS.iconst X101.here hx rfl (hb hby at_198) ?_
      refine XS.icmpYes X101.here hx rfl (pc0 := 199) (pc' := 212) rfl (hb hby at_199) rfl (feq ((by decide) : ¬ ((7 : Int32) = (5 : Int32)))).2 (by decide) (by decide) ?_
      refine XS.iload X101.here hx rfl (hb hby at_212) rfl ?_
      refine XS.bipush X101.here hx rfl (hb hby at_214) ?_
      refine XS.icmpYes X101.here hx rfl (pc0 := 216) (pc' := 228) rfl (hb hby at_216) rfl (feq ((by decide) : ¬ ((7 : Int32) = (6 : Int32)))).2 (by decide) (by decide) ?_
      exact k)
    exact own_sgleD l Z a0 hw hst p0 p1 p2 dv pd h0 n0 a4 ua (7 : Int32) c104 x105 hx hby hret hlk hml hnm hS0 hh hZ hown X101 hh101 hk0 Ch0 N101 Xo0 KK0 hR hS (show x105 = (0 : Int32) ∨ x105 = (1 : Int32) ∨ x105 = (2 : Int32) ∨ x105 = (3 : Int32) ∨ x105 = (4 : Int32) ∨ x105 = (5 : Int32) ∨ x105 = (6 : Int32) ∨ x105 = (7 : Int32) ∨ x105 = (8 : Int32) ∨ x105 = (9 : Int32) ∨ x105 = (10 : Int32) from by rw [hx105]; exact own_rem11 _)
theorem own_ef_law (m : MethodId) (p0 : Int32) (p1 : Int32) (p2 : Int32)  : entryFrame m #[(.int p0), (.int p1), (.int p2)] maxLocals = mkF m 0 #[sI p0, sI p1, sI p2, .unset, .unset, .unset, .unset, .unset, .unset, .unset, .unset, .unset, .unset] [] := by first | (simp [entryFrame, mkF, argsToLocals, Value.category, maxLocals]; done) | rfl
set_option maxRecDepth 65536 in
set_option maxHeartbeats 40000000 in
theorem own_rmlaw (l : Launch) (Z : State) (a0 : Array Value) (hw : ∀ d ∈ tables_1, d.before a0 Z = true) (hst : own_St Z) (ws : List Jvm.Cond) (p0 : Int32) (p1 : Int32) (p2 : Int32) (dv : Addr) (pd : Addr) (h0 : Heap) (n0 : Nat) (X00 : Old Z n0 h0) (hR : own_Stg Z dv pd) :
    MetFree l x (head1 (Jvm.Cond.code x code maxLocals ret :: ws) room_1) (fun a U => a = #[(.int p0), (.int p1), (.int p2)] ∧ Z.Warmed39 U.vm ∧ U.heap = h0 ∧ CHv Z consts_1 U.vm h0) (fun _ _ _ _ _ => True) (fun _ U o U' => ∃ v L, o = .returned v ∧ own_Qlaw Z p0 p1 p2 dv pd h0 n0 v U'.heap L ∧ CHr Z consts_1 U.vm U.heap U'.vm U'.heap ∧ ReturnedEndW U o U' L room_1.cells room_1.slots) := by
  refine MetFree.of_bodySF (plainFor_of_name own_pn0) hisR ?_
  intro p e s m args below meth c s₁ Bd hml0 hP hK
  obtain ⟨rfl, hZ, hh, hCH⟩ := hP
  have hx := Bd.exec
  have hby := Bd.bytes
  have hret := Bd.returns
  have hlk : meth.locks = false := BodyLoose.notSynchronized Bd
  have hml : c.maxLocals = 13 := hml0
  have hown : s.vm.findClass "com/example/tallowlark/tallowlark/server/StageFromArgumentPinLaw" = some m.cls := findClass_of_methodNamed Bd.named
  have hnm := (name_of_methodNamed Bd.named Bd.method).1
  have X0 : Stand p l e room_1 (s.setVm s.vm) m #[(.int p0), (.int p1), (.int p2)] below meth c s₁ [] 0 0 := Stand.of_body Bd
  have e0 : s₁.heap = h0 := by rw [← hh, Bd.state]; rfl
  have N0 := Fr.nil n0
  have KK0 : Keep h0 h0 [] := Keep.refl h0 _
  have hS0 : s.Since s.vm 0 := (State.WarmedH.refl s).since 0
  have hk0 : 0 ≤ h0.size := Nat.zero_le _
  have Ch0 : CHr Z consts_1 s.vm h0 s.vm h0 := CHr.refl hCH
  refine own_startH (own_Qlaw Z p0 p1 p2 dv pd h0 n0) ?_
  refine own_to (V := s₁.setTop (mkF m 0 #[sI p0, sI p1, sI p2, .unset, .unset, .unset, .unset, .unset, .unset, .unset, .unset, .unset, .unset] [])) ?_ (fun t k => castTop (own_ef_law m p0 p1 p2 ) k)
  obtain ⟨⟨G1, O2, P5⟩, ⟨G3, O4, rG3⟩, -⟩ := id hst
  obtain ⟨oD, oP, eD, eP, va, kV, sd, ud, sp, up, oV, eV, aV, fD, fP, sD, sP⟩ := id hR
  refine own_to (V := s₁.setTop (mkF m 3 #[sI p0, sI p1, sI p2, .unset, .unset, .unset, .unset, .unset, .unset, .unset, .unset, .unset, .unset] [(.int (p0 &&& (1 : Int32)))])) ?_ fun t k => (by
    refine XS.iloadN X0.here hx rfl (hb hby at_0) rfl ?_
    refine XS.iconst X0.here hx rfl (hb hby at_1) ?_
    refine XS.iand X0.here hx rfl (hb hby at_2) rfl ?_
    exact k)
  by_cases hc3_101 : (p0 &&& (1 : Int32)) = (0 : Int32)
  · skip
    refine own_to (V := s₁.setTop (mkF m 21 #[sI p0, sI p1, sI p2, sI 0, .unset, .unset, .unset, .unset, .unset, .unset, .unset, .unset, .unset] [])) ?_ fun t k => (by
      refine XS.ifYes X0.here hx rfl (pc0 := 3) (pc' := 10) rfl (hb hby at_3) rfl ((if0 _ _).trans (teq (hc3_101 : (p0 &&& (1 : Int32)) = (0 : Int32))).1) (by decide) (by decide) ?_
      refine XS.iconst X0.here hx rfl (hb hby at_10) ?_
      refine XS.istoreN X0.here hx rfl (hb hby at_11) rfl (l' := #[sI p0, sI p1, sI p2, sI 0, .unset, .unset, .unset, .unset, .unset, .unset, .unset, .unset, .unset]) rfl ?_
      refine XS.iloadN X0.here hx rfl (hb hby at_12) rfl ?_
      refine XS.ifYes X0.here hx rfl (pc0 := 13) (pc' := 21) rfl (hb hby at_13) rfl ((if0 _ _).trans (teq ((by decide) : (0 : Int32) = (0 : Int32))).1) (by decide) (by decide) ?_
      exact k)
    obtain ⟨s102, T102, h102, k102, t102, kb102, X102, e102, E102, hS102, hk102, hZ102, hown102, gE102, gC102, gV102, gK102, la102, lb102, hC102, hL102, hne102, st102⟩ := ldcCH X0 hx hZ hown (own_i hw 0 rfl) (own_hsa hw) e0 hS0 hk0 (own_hEL hw) (own_mem0) Ch0.1 (vs := [(.int (68 : Int32)), (.int (101 : Int32)), (.int (118 : Int32)), (.int (101 : Int32)), (.int (108 : Int32)), (.int (111 : Int32)), (.int (112 : Int32)), (.int (109 : Int32)), (.int (101 : Int32)), (.int (110 : Int32)), (.int (116 : Int32))]) (z := (11 : Int32)) ⟨by decide, by decide +kernel⟩ (by decide) (by decide) (g := (mkF m 21 #[sI p0, sI p1, sI p2, sI 0, .unset, .unset, .unset, .unset, .unset, .unset, .unset, .unset, .unset] [])) rfl (hb hby at_21) (n := 44) (by decide) (by decide) (by decide) (by decide)
    have Cs102 : CHr Z consts_1 s.vm h0 T102.vm h102 := hC102
    have Ch102 := Ch0.trans Cs102
    have Xo102 := X00.ext E102
    have KK102 := KK0.ext E102
    have Fs102 : own_Str Z h102 s102 t102 ([(68 : Int32), (101 : Int32), (118 : Int32), (101 : Int32), (108 : Int32), (111 : Int32), (112 : Int32), (109 : Int32), (101 : Int32), (110 : Int32), (116 : Int32)] : List Int32) := own_mkLit gE102 gV102 gC102 gK102 (by decide) (by decide) (by decide +kernel) (by decide)
    refine own_to ?_ st102
    refine own_to (V := T102.setTop (mkF m 35 #[sI p0, sI p1, sI p2, sI 0, sR s102, .unset, .unset, .unset, .unset, .unset, .unset, .unset, .unset] [])) ?_ fun t k => (by
      refine XS.astore X102.here hx rfl (hb hby at_23) rfl rfl (l' := #[sI p0, sI p1, sI p2, sI 0, sR s102, .unset, .unset, .unset, .unset, .unset, .unset, .unset, .unset]) rfl ?_
      refine XS.iloadN X102.here hx rfl (hb hby at_25) rfl ?_
      refine XS.ifYes X102.here hx rfl (pc0 := 26) (pc' := 35) rfl (hb hby at_26) rfl ((if0 _ _).trans (teq ((by decide) : (0 : Int32) = (0 : Int32))).1) (by decide) (by decide) ?_
      exact k)
    obtain ⟨T103, X103, e103, st103⟩ := getS2 X102 hx hZ102 hown102 (host := "") (Or.inl (own_i hw 8 rfl)) Via.refl e102 (oD.ext Xo102.2) (g := (mkF m 35 #[sI p0, sI p1, sI p2, sI 0, sR s102, .unset, .unset, .unset, .unset, .unset, .unset, .unset, .unset] [])) rfl (hb hby at_35)
    refine own_to ?_ st103
    refine own_to (V := T103.setTop (mkF m 40 #[sI p0, sI p1, sI p2, sI 0, sR s102, sR dv, .unset, .unset, .unset, .unset, .unset, .unset, .unset] [])) ?_ fun t k => (by
      refine XS.astore X103.here hx rfl (hb hby at_38) rfl rfl (l' := #[sI p0, sI p1, sI p2, sI 0, sR s102, sR dv, .unset, .unset, .unset, .unset, .unset, .unset, .unset]) rfl ?_
      exact k)
    exact own_sglD l Z a0 hw hst p0 p1 p2 dv pd h0 n0 s102 t102 hx hby hret hlk hml hnm hS102 hh hZ102 hown102 (X103.wide (L' := _) (cells' := 2) (slots' := 50) (fun x hx _ => hx) (by decide) (by decide)) e103 hk102 Ch102 N0 Xo102 KK102 hR Fs102
  · skip
    refine own_to (V := s₁.setTop (mkF m 16 #[sI p0, sI p1, sI p2, sI 1, .unset, .unset, .unset, .unset, .unset, .unset, .unset, .unset, .unset] [])) ?_ fun t k => (by
      refine XS.ifNo X0.here hx rfl (hb hby at_3) rfl ((if0 _ _).trans (feq (hc3_101 : ¬ ((p0 &&& (1 : Int32)) = (0 : Int32)))).1) ?_
      refine XS.iconst X0.here hx rfl (hb hby at_6) ?_
      refine XS.goto X0.here hx rfl (pc0 := 7) (pc' := 11) rfl (hb hby at_7) (by decide) (by decide) ?_
      refine XS.istoreN X0.here hx rfl (hb hby at_11) rfl (l' := #[sI p0, sI p1, sI p2, sI 1, .unset, .unset, .unset, .unset, .unset, .unset, .unset, .unset, .unset]) rfl ?_
      refine XS.iloadN X0.here hx rfl (hb hby at_12) rfl ?_
      refine XS.ifNo X0.here hx rfl (hb hby at_13) rfl ((if0 _ _).trans (feq ((by decide) : ¬ ((1 : Int32) = (0 : Int32)))).1) ?_
      exact k)
    obtain ⟨s104, T104, h104, k104, t104, kb104, X104, e104, E104, hS104, hk104, hZ104, hown104, gE104, gC104, gV104, gK104, la104, lb104, hC104, hL104, hne104, st104⟩ := ldcCH X0 hx hZ hown (own_i hw 106 rfl) (own_hsa hw) e0 hS0 hk0 (own_hEL hw) (own_mem106) Ch0.1 (vs := [(.int (80 : Int32)), (.int (114 : Int32)), (.int (111 : Int32)), (.int (100 : Int32)), (.int (117 : Int32)), (.int (99 : Int32)), (.int (116 : Int32)), (.int (105 : Int32)), (.int (111 : Int32)), (.int (110 : Int32))]) (z := (10 : Int32)) ⟨by decide, by decide +kernel⟩ (by decide) (by decide) (g := (mkF m 16 #[sI p0, sI p1, sI p2, sI 1, .unset, .unset, .unset, .unset, .unset, .unset, .unset, .unset, .unset] [])) rfl (hb hby at_16) (n := 40) (by decide) (by decide) (by decide) (by decide)
    have Cs104 : CHr Z consts_1 s.vm h0 T104.vm h104 := hC104
    have Ch104 := Ch0.trans Cs104
    have Xo104 := X00.ext E104
    have KK104 := KK0.ext E104
    have Fs104 : own_Str Z h104 s104 t104 ([(80 : Int32), (114 : Int32), (111 : Int32), (100 : Int32), (117 : Int32), (99 : Int32), (116 : Int32), (105 : Int32), (111 : Int32), (110 : Int32)] : List Int32) := own_mkLit gE104 gV104 gC104 gK104 (by decide) (by decide) (by decide +kernel) (by decide)
    refine own_to ?_ st104
    refine own_to (V := T104.setTop (mkF m 29 #[sI p0, sI p1, sI p2, sI 1, sR s104, .unset, .unset, .unset, .unset, .unset, .unset, .unset, .unset] [])) ?_ fun t k => (by
      refine XS.goto X104.here hx rfl (pc0 := 18) (pc' := 23) rfl (hb hby at_18) (by decide) (by decide) ?_
      refine XS.astore X104.here hx rfl (hb hby at_23) rfl rfl (l' := #[sI p0, sI p1, sI p2, sI 1, sR s104, .unset, .unset, .unset, .unset, .unset, .unset, .unset, .unset]) rfl ?_
      refine XS.iloadN X104.here hx rfl (hb hby at_25) rfl ?_
      refine XS.ifNo X104.here hx rfl (hb hby at_26) rfl ((if0 _ _).trans (feq ((by decide) : ¬ ((1 : Int32) = (0 : Int32)))).1) ?_
      exact k)
    obtain ⟨T105, X105, e105, st105⟩ := getS2 X104 hx hZ104 hown104 (host := "") (Or.inl (own_i hw 107 rfl)) Via.refl e104 (oP.ext Xo104.2) (g := (mkF m 29 #[sI p0, sI p1, sI p2, sI 1, sR s104, .unset, .unset, .unset, .unset, .unset, .unset, .unset, .unset] [])) rfl (hb hby at_29)
    refine own_to ?_ st105
    refine own_to (V := T105.setTop (mkF m 40 #[sI p0, sI p1, sI p2, sI 1, sR s104, sR pd, .unset, .unset, .unset, .unset, .unset, .unset, .unset] [])) ?_ fun t k => (by
      refine XS.goto X105.here hx rfl (pc0 := 32) (pc' := 38) rfl (hb hby at_32) (by decide) (by decide) ?_
      refine XS.astore X105.here hx rfl (hb hby at_38) rfl rfl (l' := #[sI p0, sI p1, sI p2, sI 1, sR s104, sR pd, .unset, .unset, .unset, .unset, .unset, .unset, .unset]) rfl ?_
      exact k)
    exact own_sglP l Z a0 hw hst p0 p1 p2 dv pd h0 n0 s104 t104 hx hby hret hlk hml hnm hS104 hh hZ104 hown104 (X105.wide (L' := _) (cells' := 2) (slots' := 50) (fun x hx _ => hx) (by decide) (by decide)) e105 hk104 Ch104 N0 Xo104 KK104 hR Fs104
set_option maxRecDepth 65536 in
set_option maxHeartbeats 40000000 in
theorem comes_1 {Post : Tables → Env → Array Value → State → Outcome → State → Prop} (hpost : ∀ tb e args s v u, (limb_1_1.after args s (.returned v) u = true ∧ limb_1_2.after args s (.returned v) u = true ∧ True) → ReturnedEndW s (.returned v) u (Jvm.fieldLocs frame_1_writes args s ++ Jvm.arrayLocs frame_1_arrays args s ++ Jvm.staticLocs frame_1_statics s) 24 3264 → Post tb e args s (.returned v) u) :
    ArmFor flags0 classFile x code maxLocals ret World_1 tables_1 room_1 Calls_1 rest_1 Pre_1 Post := by
  intro l hfl _ _ p e ha hc hk s m args below hf hA hF happ hP
  obtain ⟨hcalls, hrest, hpre⟩ := hP
  obtain ⟨-, -, -, hnamed, -, -, -, hat⟩ := (Spec.applies_iff hf).mp happ
  obtain ⟨hg, hn⟩ := and_e (Cond.before_iff.mp (show (Jvm.Cond.and given_1 narrow_1).before args s = true from hpre))
  obtain ⟨hcnt, gr0⟩ := and_e hg
  obtain ⟨ga0, gr1⟩ := and_e gr0
  obtain ⟨ga1, gr2⟩ := and_e gr1
  have ga2 := gr2
  obtain ⟨w0, w1, w2, rfl⟩ : ∃ w0 w1 w2 : Value, args = #[w0, w1, w2] := by
    have hs : args.size = 3 := by simpa [Cond.value, given_1] using hcnt
    obtain ⟨L⟩ := args
    match L, hs with
    | [w0, w1, w2], _ => exact ⟨w0, w1, w2, rfl⟩
  have hw := fun d (hd : d ∈ tables_1) => atoms_spec (ws := Jvm.Cond.code x code maxLocals ret :: tables_1) hat d (List.mem_cons_of_mem _ hd)
  have hfit : Fit s := fun {y c} hc i hi => by
    obtain ⟨ha, rfl⟩ := Array.getElem?_eq_some_iff.mp hc
    have q := List.all_eq_true.mp ((Array.all_eq_true_iff_forall_mem.mp hF) _ (Array.getElem_mem ha)) i (List.mem_range.mpr hi)
    simpa [Array.getElem?_eq_getElem hi] using q
  obtain ⟨hsets, hown0⟩ := atoms_of _ (rest_1_c_eq ▸ (show rest_1_c.before _ s = true from hrest))
  obtain ⟨i0, ei0⟩ := is_v ga0
  obtain rfl : w0 = (.int i0) := Option.some.inj ei0
  obtain ⟨i1, ei1⟩ := is_v ga1
  obtain rfl : w1 = (.int i1) := Option.some.inj ei1
  obtain ⟨i2, ei2⟩ := is_v ga2
  obtain rfl : w2 = (.int i2) := Option.some.inj ei2
  obtain ⟨z1, ez1⟩ := is_v (Cond.before_iff.mp (hsets _ (List.mem_of_getElem? (i := 1) rfl)))
  have S1 : Sta s s.heap "java/lang/String" "COMPACT_STRINGS" "Z" (.int z1) := Sta.start ez1 (Or.inl (hsets _ (List.mem_of_getElem? (i := 0) rfl)))
  have P1 : ¬ (z1 = (0 : Int32)) := gotF (Cond.eq_ints ez1 (Term.int_eval (0))) (not_v (Cond.before_iff.mp (hsets _ (List.mem_of_getElem? (i := 2) rfl))))
  obtain ⟨v3, ev3, r3⟩ := isR_v (Cond.before_iff.mp (hsets _ (List.mem_of_getElem? (i := 8) rfl)))
  have S3 : Sta s s.heap "jdk/internal/util/Preconditions" "SIOOBE_FORMATTER" "Ljava/util/function/BiFunction;" v3 := Sta.start ev3 (Or.inl (hsets _ (List.mem_of_getElem? (i := 7) rfl)))
  obtain ⟨hq0, hr0⟩ := and_e hn
  obtain ⟨hq1, hr1⟩ := and_e hr0
  obtain ⟨hq2, hr2⟩ := and_e hr1
  obtain ⟨hq3, hr3⟩ := and_e hr2
  obtain ⟨hq4, hr4⟩ := and_e hr3
  obtain ⟨hq5, hr5⟩ := and_e hr4
  obtain ⟨hq6, hr6⟩ := and_e hr5
  obtain ⟨hq7, hr7⟩ := and_e hr6
  obtain ⟨hq8, hr8⟩ := and_e hr7
  obtain ⟨hq9, hr9⟩ := and_e hr8
  obtain ⟨hq10, hr10⟩ := and_e hr9
  obtain ⟨hq11, hr11⟩ := and_e hr10
  obtain ⟨hq12, hr12⟩ := and_e hr11
  obtain ⟨hq13, hr13⟩ := and_e hr12
  obtain ⟨hq14, hr14⟩ := and_e hr13
  obtain ⟨hq15, hr15⟩ := and_e hr14
  obtain ⟨hq16, hr16⟩ := and_e hr15
  obtain ⟨hq17, hr17⟩ := and_e hr16
  obtain ⟨hq18, hr18⟩ := and_e hr17
  obtain ⟨hq19, hr19⟩ := and_e hr18
  obtain ⟨hq20, hr20⟩ := and_e hr19
  obtain ⟨hq21, hr21⟩ := and_e hr20
  obtain ⟨hq22, hr22⟩ := and_e hr21
  obtain ⟨hq23, hr23⟩ := and_e hr22
  obtain ⟨hq24, hr24⟩ := and_e hr23
  obtain ⟨hq25, hr25⟩ := and_e hr24
  obtain ⟨hq26, hr26⟩ := and_e hr25
  obtain ⟨hq27, hr27⟩ := and_e hr26
  obtain ⟨hq28, hr28⟩ := and_e hr27
  obtain ⟨hq29, hr29⟩ := and_e hr28
  obtain ⟨hq30, hr30⟩ := and_e hr29
  obtain ⟨hq31, hr31⟩ := and_e hr30
  obtain ⟨hq32, hr32⟩ := and_e hr31
  obtain ⟨hq33, hr33⟩ := and_e hr32
  obtain ⟨hq34, hr34⟩ := and_e hr33
  have hq35 := hr34
  obtain ⟨dv, evdv⟩ := exa_v hq0
  have exdv := Exa.start evdv hq0
  have Sdv : Sta s s.heap "com/example/tallowlark/tallowlark/server/Stage" "DEVELOPMENT" "Lcom/example/tallowlark/tallowlark/server/Stage;" (.ref dv) := Sta.start evdv (Or.inr ⟨(own_i hw 9 rfl), (own_i hw 10 rfl)⟩)
  obtain ⟨sD, eaD⟩ := exa_v hq7
  have xsD := Exa.start eaD hq7
  have faD := Fld.start ((fld_at evdv).symm.trans eaD)
  have fcD := Fld.start (own_fldI eaD hq8)
  obtain ⟨uD, ebD⟩ := arr_v hq9
  have fvD := Fld.start ((fld_at eaD).symm.trans ebD)
  obtain ⟨clD, arD⟩ := Arr.start ebD hq9
  obtain ⟨szD, leD⟩ := Jvm.Free.IntBox.length_fwd (Cond.before_iff.mpr hq10) ebD arD.1 arD.2.1 arD.2.2
  have avD : Arv s s.heap uD clD.cls .byte (11 : Int32) [Value.int (68 : Int32), Value.int (101 : Int32), Value.int (118 : Int32), Value.int (101 : Int32), Value.int (108 : Int32), Value.int (111 : Int32), Value.int (112 : Int32), Value.int (109 : Int32), Value.int (101 : Int32), Value.int (110 : Int32), Value.int (116 : Int32)] (.int 0) := Arv.start hfit arD szD leD (by decide) rfl ⟨(elem_f ebD (Term.int_eval 0) (arD.fin (Vm.Alike.refl _)) (by decide)).symm.trans (eqv_i (Term.int_eval _) hq15), (elem_f ebD (Term.int_eval 1) (arD.fin (Vm.Alike.refl _)) (by decide)).symm.trans (eqv_i (Term.int_eval _) hq16), (elem_f ebD (Term.int_eval 2) (arD.fin (Vm.Alike.refl _)) (by decide)).symm.trans (eqv_i (Term.int_eval _) hq17), (elem_f ebD (Term.int_eval 3) (arD.fin (Vm.Alike.refl _)) (by decide)).symm.trans (eqv_i (Term.int_eval _) hq18), (elem_f ebD (Term.int_eval 4) (arD.fin (Vm.Alike.refl _)) (by decide)).symm.trans (eqv_i (Term.int_eval _) hq19), (elem_f ebD (Term.int_eval 5) (arD.fin (Vm.Alike.refl _)) (by decide)).symm.trans (eqv_i (Term.int_eval _) hq20), (elem_f ebD (Term.int_eval 6) (arD.fin (Vm.Alike.refl _)) (by decide)).symm.trans (eqv_i (Term.int_eval _) hq21), (elem_f ebD (Term.int_eval 7) (arD.fin (Vm.Alike.refl _)) (by decide)).symm.trans (eqv_i (Term.int_eval _) hq22), (elem_f ebD (Term.int_eval 8) (arD.fin (Vm.Alike.refl _)) (by decide)).symm.trans (eqv_i (Term.int_eval _) hq23), (elem_f ebD (Term.int_eval 9) (arD.fin (Vm.Alike.refl _)) (by decide)).symm.trans (eqv_i (Term.int_eval _) hq24), (elem_f ebD (Term.int_eval 10) (arD.fin (Vm.Alike.refl _)) (by decide)).symm.trans (eqv_i (Term.int_eval _) hq25), trivial⟩
  have stD : own_Str s s.heap sD uD ([(68 : Int32), (101 : Int32), (118 : Int32), (101 : Int32), (108 : Int32), (111 : Int32), (112 : Int32), (109 : Int32), (101 : Int32), (110 : Int32), (116 : Int32)] : List Int32) := own_mkLit xsD fvD fcD avD rfl (by decide) (by decide) (by decide)
  obtain ⟨pd, evpd⟩ := exa_v hq5
  have expd := Exa.start evpd hq5
  have Spd : Sta s s.heap "com/example/tallowlark/tallowlark/server/Stage" "PRODUCTION" "Lcom/example/tallowlark/tallowlark/server/Stage;" (.ref pd) := Sta.start evpd (Or.inr ⟨(own_i hw 9 rfl), (own_i hw 91 rfl)⟩)
  obtain ⟨sP, eaP⟩ := exa_v hq11
  have xsP := Exa.start eaP hq11
  have faP := Fld.start ((fld_at evpd).symm.trans eaP)
  have fcP := Fld.start (own_fldI eaP hq12)
  obtain ⟨uP, ebP⟩ := arr_v hq13
  have fvP := Fld.start ((fld_at eaP).symm.trans ebP)
  obtain ⟨clP, arP⟩ := Arr.start ebP hq13
  obtain ⟨szP, leP⟩ := Jvm.Free.IntBox.length_fwd (Cond.before_iff.mpr hq14) ebP arP.1 arP.2.1 arP.2.2
  have avP : Arv s s.heap uP clP.cls .byte (10 : Int32) [Value.int (80 : Int32), Value.int (114 : Int32), Value.int (111 : Int32), Value.int (100 : Int32), Value.int (117 : Int32), Value.int (99 : Int32), Value.int (116 : Int32), Value.int (105 : Int32), Value.int (111 : Int32), Value.int (110 : Int32)] (.int 0) := Arv.start hfit arP szP leP (by decide) rfl ⟨(elem_f ebP (Term.int_eval 0) (arP.fin (Vm.Alike.refl _)) (by decide)).symm.trans (eqv_i (Term.int_eval _) hq26), (elem_f ebP (Term.int_eval 1) (arP.fin (Vm.Alike.refl _)) (by decide)).symm.trans (eqv_i (Term.int_eval _) hq27), (elem_f ebP (Term.int_eval 2) (arP.fin (Vm.Alike.refl _)) (by decide)).symm.trans (eqv_i (Term.int_eval _) hq28), (elem_f ebP (Term.int_eval 3) (arP.fin (Vm.Alike.refl _)) (by decide)).symm.trans (eqv_i (Term.int_eval _) hq29), (elem_f ebP (Term.int_eval 4) (arP.fin (Vm.Alike.refl _)) (by decide)).symm.trans (eqv_i (Term.int_eval _) hq30), (elem_f ebP (Term.int_eval 5) (arP.fin (Vm.Alike.refl _)) (by decide)).symm.trans (eqv_i (Term.int_eval _) hq31), (elem_f ebP (Term.int_eval 6) (arP.fin (Vm.Alike.refl _)) (by decide)).symm.trans (eqv_i (Term.int_eval _) hq32), (elem_f ebP (Term.int_eval 7) (arP.fin (Vm.Alike.refl _)) (by decide)).symm.trans (eqv_i (Term.int_eval _) hq33), (elem_f ebP (Term.int_eval 8) (arP.fin (Vm.Alike.refl _)) (by decide)).symm.trans (eqv_i (Term.int_eval _) hq34), (elem_f ebP (Term.int_eval 9) (arP.fin (Vm.Alike.refl _)) (by decide)).symm.trans (eqv_i (Term.int_eval _) hq35), trivial⟩
  have stP : own_Str s s.heap sP uP ([(80 : Int32), (114 : Int32), (111 : Int32), (100 : Int32), (117 : Int32), (99 : Int32), (116 : Int32), (105 : Int32), (111 : Int32), (110 : Int32)] : List Int32) := own_mkLit xsP fvP fcP avP rfl (by decide) (by decide) (by decide)
  obtain ⟨va, eva⟩ := arr_v hq1
  have xva := Exa.start eva hq2
  obtain ⟨clV, arV⟩ := Arr.start eva hq1
  obtain ⟨szV, leV⟩ := Jvm.Free.IntBox.length_fwd (Cond.before_iff.mpr hq3) eva arV.1 arV.2.1 arV.2.2
  have Sva : Sta s s.heap "com/example/tallowlark/tallowlark/server/Stage" "$VALUES" "[Lcom/example/tallowlark/tallowlark/server/Stage;" (.ref va) := Sta.start eva (Or.inl (own_i hw 92 rfl))
  have avV : Arv s s.heap va clV.cls (.object "com/example/tallowlark/tallowlark/server/Stage") (2 : Int32) [(.ref dv), (.ref pd)] .null := Arv.start hfit arV szV leV (by decide) rfl ⟨(elem_f eva (Term.int_eval 0) (arV.fin (Vm.Alike.refl _)) (by decide)).symm.trans (own_eqR evdv hq4), (elem_f eva (Term.int_eval 1) (arV.fin (Vm.Alike.refl _)) (by decide)).symm.trans (own_eqR evpd hq6), trivial⟩
  have hR : own_Stg s dv pd := ⟨Sdv, Spd, exdv, expd, va, _, sD, uD, sP, uP, Sva, xva, avV, faD, faP, stD, stP⟩
  have hst : own_St s := ⟨⟨z1, S1, P1⟩, ⟨v3, S3, r3⟩, trivial⟩
  have hCH0 : CHv s consts_1 s.vm s.heap := CHv.start (own_hEL hw) hcalls.1 (hsets _ (List.mem_of_getElem? (i := 2) rfl)) (own_i hw 3 rfl) (own_i hw 2 rfl)
  obtain ⟨n, o, h1, h2, h3, _, L, rfl, ⟨rfl, N, -⟩, -, hq⟩ := own_rmlaw l s _ hw hst tables_1 i0 i1 i2 dv pd s.heap s.heap.size (Old.start s) hR p e ha hc hk s m _ below hf ((Spec.applies_iff_loose hf).mp happ).1 ⟨rfl, State.Warmed39.refl s, rfl, hCH0⟩ trivial
  refine ⟨n, _, h1, h2, h3, hpost _ _ _ _ _ _ ⟨Cond.after_iff.mpr rfl, Cond.after_iff.mpr (eq_i res_at (Term.int_eval (1)) rfl), trivial⟩ ⟨hq.1, hq.2.1, hq.2.2.1, (hq.2.2.2.sift fun y hy => Or.inr (N y hy)).mono (by decide) (by decide)⟩⟩
theorem main_1_1 : Claimed_1_1 := comes_1 fun _ _ _ _ _ _ h hF => ⟨h.1, hF⟩
theorem main_1_2 : Claimed_1_2 := comes_1 fun _ _ _ _ _ _ h hF => ⟨h.2.1, hF⟩
end Jvm.Pilot.@@N@@
namespace Jvm.Pilot.@@N@@
open Jvm Jvm.ClassFile Sem Op Lib Jvm.Free Jvm.Stand Jvm.Pilot.@@N@@.Jvm.D
/-! MADE BY PROGRAM (witnessworld.py) out of the Statement's table words and the real class files: 22 classes; the members and pool entries that the words name. The judged class is class 1, her method 1. -/
namespace start1
open Jvm.ClassFile
def u (s : String) : CpInfo := .utf8 (stringToUtf16 s)
/-- a pool by its gaps: so many unusable entries, then the entry; so many at the end -/
def gap : Nat → List CpInfo → List CpInfo
  | 0, r => r
  | n + 1, r => .unusable :: gap n r
def poolList (es : List (Nat × CpInfo)) (last : Nat) : List CpInfo := es.foldr (fun e r => gap e.1 (e.2 :: r)) (gap last [])
def pool (es : List (Nat × CpInfo)) (last : Nat) : Array CpInfo := ⟨poolList es last⟩
def fileOf (pool : Array CpInfo) (this : Nat) (attrs : Array Attribute := #[]) (ms : Array MethodInfo := #[]) (fl : Nat := 33) (sup : Nat := 0) (ifs : Array Nat := #[]) (fds : Array FieldInfo := #[]) : ClassFile where
  minorVersion := 0
  majorVersion := 65
  constantPool := pool
  accessFlags := fl
  thisClass := this
  superClass := sup
  interfaces := ifs
  fields := fds
  methods := ms
  attributes := attrs
def plain (name : String) (sup : Option ClassId) : Class where
  name := name
  kind := .ordinary
  loader := none
  accessFlags := 33
  super := sup
  interfaces := #[]
  cf := none
  fields := #[]
  methods := #[]
  instanceTypes := #[]
  staticTypes := #[]
  resolved := #[]
  callSites := []
  init := .initialized
  statics := none
  mirror := none

def pool0 : Array CpInfo := pool [(5, u "<init>"), (0, u "()V"), (1, .class_ 10), (1, u "java/lang/Object"), (85, u "clone"), (0, u "()Ljava/lang/Object;")] 26

def k0c0 : Code := { maxStack := 0, maxLocals := 1, code := object_method_1_code, exceptionTable := #[], attributes := #[] }
def k0m0 : Method := { name := "<init>", desc := "()V", sig := { parameters := [], returnType := none }, accessFlags := 1, code := some k0c0 }
def k0m1 : Method := { name := "clone", desc := "()Ljava/lang/Object;", sig := { parameters := [], returnType := some (.object "java/lang/Object") }, accessFlags := 260, code := none }
/-- java/lang/Object -/
def k0 : Class := { plain "java/lang/Object" none with
  accessFlags := 33
  interfaces := #[]
  cf := some (fileOf pool0 8 #[] #[{ accessFlags := 1, nameIndex := 5, descriptorIndex := 6, attributes := #[] }, { accessFlags := 260, nameIndex := 96, descriptorIndex := 97, attributes := #[] }] 33 0 #[] #[])
  fields := #[]
  methods := #[k0m0, k0m1]
  instanceTypes := #[]
  staticTypes := #[]
  resolved := Array.replicate 124 none
  statics := none }

def pool1 : Array CpInfo := pool [(2, .class_ 4), (1, u "java/lang/Object"), (0, u "<init>"), (0, u "()V"), (0, .string 8), (0, u "Production"), (0, .string 10), (0, u "Development"), (0, .fieldref 12 13), (0, .class_ 14), (0, .nameAndType 15 16), (0, u "com/example/tallowlark/tallowlark/server/Stage"), (0, u "PRODUCTION"), (0, u "Lcom/example/tallowlark/tallowlark/server/Stage;"), (0, .fieldref 12 18), (0, .nameAndType 19 16), (0, u "DEVELOPMENT"), (0, .methodref 21 22), (0, .class_ 23), (0, .nameAndType 24 25), (0, u "java/lang/String"), (0, u "length"), (0, u "()I"), (0, .integer 2147483647), (0, .methodref 28 29), (0, .class_ 30), (0, .nameAndType 31 32), (0, u "com/example/tallowlark/tallowlark/server/StageFromArgumentPinLaw"), (0, u "make"), (0, u "(Ljava/lang/String;IIC)Ljava/lang/String;"), (0, .methodref 21 34), (0, .nameAndType 35 36), (0, u "charAt"), (0, u "(I)C"), (0, .string 38), (0, u ""), (0, .methodref 12 40), (0, .nameAndType 41 42), (0, u "fromArgument"), (0, u "(Ljava/lang/String;)Lcom/example/tallowlark/tallowlark/server/Stage;"), (0, .methodref 28 44), (0, .nameAndType 45 46), (0, u "at"), (0, u "(Ljava/lang/String;IIC)C"), (0, .methodref 21 48), (0, .nameAndType 5 49), (0, u "([C)V"), (2, u "law"), (0, u "(III)Z")] 3

def k1m0 : Method := { name := "<init>", desc := "()V", sig := { parameters := [], returnType := none }, accessFlags := 1, code := none }
def k1c1 : Code := { maxStack := 4, maxLocals := 13, code := code, exceptionTable := #[], attributes := #[] }
def k1m1 : Method := { name := "law", desc := "(III)Z", sig := { parameters := [.int, .int, .int], returnType := some .boolean }, accessFlags := 9, code := some k1c1 }
def k1c2 : Code := { maxStack := 2, maxLocals := 4, code := method_3_code, exceptionTable := #[], attributes := #[] }
def k1m2 : Method := { name := "at", desc := "(Ljava/lang/String;IIC)C", sig := { parameters := [(.object "java/lang/String"), .int, .int, .char], returnType := some .char }, accessFlags := 10, code := some k1c2 }
def k1c3 : Code := { maxStack := 6, maxLocals := 5, code := method_4_code, exceptionTable := #[], attributes := #[] }
def k1m3 : Method := { name := "make", desc := "(Ljava/lang/String;IIC)Ljava/lang/String;", sig := { parameters := [(.object "java/lang/String"), .int, .int, .char], returnType := some (.object "java/lang/String") }, accessFlags := 10, code := some k1c3 }
/-- com/example/tallowlark/tallowlark/server/StageFromArgumentPinLaw -/
def k1 : Class := { plain "com/example/tallowlark/tallowlark/server/StageFromArgumentPinLaw" (some 0) with
  accessFlags := 49
  interfaces := #[]
  cf := some (fileOf pool1 28 #[] #[{ accessFlags := 1, nameIndex := 5, descriptorIndex := 6, attributes := #[] }, { accessFlags := 9, nameIndex := 52, descriptorIndex := 53, attributes := #[] }, { accessFlags := 10, nameIndex := 45, descriptorIndex := 46, attributes := #[] }, { accessFlags := 10, nameIndex := 31, descriptorIndex := 32, attributes := #[] }] 49 2 #[] #[])
  fields := #[]
  methods := #[k1m0, k1m1, k1m2, k1m3]
  instanceTypes := #[]
  staticTypes := #[]
  resolved := Array.replicate 57 none
  statics := none }

def pool2 : Array CpInfo := pool [(1, .class_ 2), (0, u "java/io/Serializable"), (0, .class_ 4), (0, u "java/lang/Object")] 2

/-- java/io/Serializable -/
def k2 : Class := { plain "java/io/Serializable" (some 0) with
  accessFlags := 1537
  interfaces := #[]
  cf := some (fileOf pool2 1 #[] #[] 1537 3 #[] #[])
  fields := #[]
  methods := #[]
  instanceTypes := #[]
  staticTypes := #[]
  resolved := Array.replicate 7 none
  statics := none }

def pool3 : Array CpInfo := pool [(1, .class_ 2), (0, u "java/lang/Comparable"), (0, .class_ 4), (0, u "java/lang/Object")] 7

/-- java/lang/Comparable -/
def k3 : Class := { plain "java/lang/Comparable" (some 0) with
  accessFlags := 1537
  interfaces := #[]
  cf := some (fileOf pool3 1 #[] #[] 1537 3 #[] #[])
  fields := #[]
  methods := #[]
  instanceTypes := #[]
  staticTypes := #[]
  resolved := Array.replicate 12 none
  statics := none }

def pool4 : Array CpInfo := pool [(2, .class_ 4), (1, u "java/lang/CharSequence"), (42, .class_ 48), (0, u "java/lang/CharSequence$1CodePointIterator"), (10, .class_ 60), (0, u "java/lang/CharSequence$1CharIterator"), (5, .class_ 67), (0, u "java/lang/Object")] 63

/-- java/lang/CharSequence -/
def k4 : Class := { plain "java/lang/CharSequence" (some 0) with
  accessFlags := 1537
  interfaces := #[]
  cf := some (fileOf pool4 2 #[.nestMembers #[47, 59]] #[] 1537 66 #[] #[])
  fields := #[]
  methods := #[]
  instanceTypes := #[]
  staticTypes := #[]
  resolved := Array.replicate 131 none
  statics := none }

def pool5 : Array CpInfo := pool [(1, .class_ 2), (0, u "java/lang/constant/Constable"), (0, .class_ 4), (0, u "java/lang/Object")] 6

/-- java/lang/constant/Constable -/
def k5 : Class := { plain "java/lang/constant/Constable" (some 0) with
  accessFlags := 1537
  interfaces := #[]
  cf := some (fileOf pool5 1 #[] #[] 1537 3 #[] #[])
  fields := #[]
  methods := #[]
  instanceTypes := #[]
  staticTypes := #[]
  resolved := Array.replicate 11 none
  statics := none }

def pool6 : Array CpInfo := pool [(1, .class_ 2), (0, u "java/lang/constant/ConstantDesc"), (0, .class_ 4), (0, u "java/lang/Object")] 32

/-- java/lang/constant/ConstantDesc -/
def k6 : Class := { plain "java/lang/constant/ConstantDesc" (some 0) with
  accessFlags := 1537
  interfaces := #[]
  cf := some (fileOf pool6 1 #[] #[] 1537 3 #[] #[])
  fields := #[]
  methods := #[]
  instanceTypes := #[]
  staticTypes := #[]
  resolved := Array.replicate 37 none
  statics := none }

def pool7 : Array CpInfo := pool [(1, .methodref 2 3), (0, .class_ 4), (0, .nameAndType 5 6), (0, u "java/lang/Object"), (0, u "<init>"), (0, u "()V"), (2, .fieldref 10 11), (0, .class_ 12), (0, .nameAndType 13 14), (0, u "java/lang/String"), (0, u "value"), (0, u "[B"), (0, .fieldref 10 16), (0, .nameAndType 17 18), (0, u "coder"), (0, u "B"), (2, u "hash"), (0, u "I"), (2, u "hashIsZero"), (0, u "Z"), (0, .methodref 10 28), (0, .nameAndType 5 29), (0, u "([CIILjava/lang/Void;)V"), (8, .fieldref 10 39), (0, .nameAndType 40 26), (0, u "COMPACT_STRINGS"), (1, .class_ 44), (1, u "java/lang/StringUTF16"), (0, u "compress"), (1, .methodref 42 48), (0, .nameAndType 49 50), (0, u "coderFromArrayLen"), (0, u "([BI)B"), (56, .class_ 109), (1, u "java/lang/StringLatin1"), (32, u "()Z"), (34, .methodref 42 178), (0, .nameAndType 45 179), (0, u "([CII)[B"), (154, u "()I"), (0, .methodref 10 336), (0, .nameAndType 17 337), (0, u "()B"), (25, u "([BI)C"), (27, u "(II)V"), (35, u "(I)C"), (64, .methodref 10 493), (0, .nameAndType 494 142), (0, u "isLatin1"), (0, .methodref 107 496), (0, .nameAndType 497 363), (0, u "charAt"), (3, u "checkIndex"), (5, u "length"), (33, .methodref 107 542), (0, .nameAndType 543 544), (0, u "equals"), (0, u "([B[B)Z"), (28, u "(Ljava/lang/Object;)Z"), (1, .class_ 576), (0, u "java/lang/CharSequence"), (22, u "CASE_INSENSITIVE_ORDER"), (0, u "Ljava/util/Comparator;"), (409, u "([C)V"), (42, .fieldref 1054 1055), (0, .class_ 1056), (0, .nameAndType 1057 1058), (0, u "jdk/internal/util/Preconditions"), (0, u "SIOOBE_FORMATTER"), (0, u "Ljava/util/function/BiFunction;"), (0, .methodref 1054 1060), (0, .nameAndType 501 1061), (0, u "(IILjava/util/function/BiFunction;)I"), (39, u "serialPersistentFields"), (0, u "[Ljava/io/ObjectStreamField;"), (0, .class_ 1104), (0, u "java/lang/String$CaseInsensitiveComparator"), (1, .class_ 1107), (0, u "java/io/Serializable"), (0, .class_ 1109), (0, u "java/lang/Comparable"), (0, .class_ 1111), (0, u "java/lang/constant/Constable"), (0, .class_ 1113), (0, u "java/lang/constant/ConstantDesc"), (2, u "serialVersionUID"), (0, u "J"), (3, u "REPL"), (0, u "C"), (2, u "LATIN1"), (1, u "UTF16")] 323

def k7m0 : Method := { name := "<init>", desc := "()V", sig := { parameters := [], returnType := none }, accessFlags := 1, code := none }
def k7c1 : Code := { maxStack := 5, maxLocals := 2, code := jdk_42_method_3_code, exceptionTable := #[], attributes := #[] }
def k7m1 : Method := { name := "<init>", desc := "([C)V", sig := { parameters := [(.array .char)], returnType := none }, accessFlags := 1, code := some k7c1 }
def k7c2 : Code := { maxStack := 2, maxLocals := 1, code := jdk_42_method_54_code, exceptionTable := #[], attributes := #[] }
def k7m2 : Method := { name := "length", desc := "()I", sig := { parameters := [], returnType := some .int }, accessFlags := 1, code := some k7c2 }
def k7c3 : Code := { maxStack := 2, maxLocals := 2, code := jdk_42_method_56_code, exceptionTable := #[], attributes := #[] }
def k7m3 : Method := { name := "charAt", desc := "(I)C", sig := { parameters := [.int], returnType := some .char }, accessFlags := 1, code := some k7c3 }
def k7c4 : Code := { maxStack := 2, maxLocals := 3, code := jdk_42_method_66_code, exceptionTable := #[], attributes := #[] }
def k7m4 : Method := { name := "equals", desc := "(Ljava/lang/Object;)Z", sig := { parameters := [(.object "java/lang/Object")], returnType := some .boolean }, accessFlags := 1, code := some k7c4 }
def k7c5 : Code := { maxStack := 4, maxLocals := 6, code := jdk_42_method_149_code, exceptionTable := #[], attributes := #[] }
def k7m5 : Method := { name := "<init>", desc := "([CIILjava/lang/Void;)V", sig := { parameters := [(.array .char), .int, .int, (.object "java/lang/Void")], returnType := none }, accessFlags := 2, code := some k7c5 }
def k7c6 : Code := { maxStack := 1, maxLocals := 1, code := jdk_42_method_152_code, exceptionTable := #[], attributes := #[] }
def k7m6 : Method := { name := "coder", desc := "()B", sig := { parameters := [], returnType := some .byte }, accessFlags := 0, code := some k7c6 }
def k7c7 : Code := { maxStack := 1, maxLocals := 1, code := jdk_42_method_154_code, exceptionTable := #[], attributes := #[] }
def k7m7 : Method := { name := "isLatin1", desc := "()Z", sig := { parameters := [], returnType := some .boolean }, accessFlags := 0, code := some k7c7 }
def k7c8 : Code := { maxStack := 3, maxLocals := 2, code := jdk_42_method_155_code, exceptionTable := #[], attributes := #[] }
def k7m8 : Method := { name := "checkIndex", desc := "(II)V", sig := { parameters := [.int, .int], returnType := none }, accessFlags := 8, code := some k7c8 }
/-- java/lang/String -/
def k7 : Class := { plain "java/lang/String" (some 0) with
  accessFlags := 49
  interfaces := #[2, 3, 4, 5, 6]
  cf := some (fileOf pool7 10 #[.nestMembers #[1103]] #[{ accessFlags := 1, nameIndex := 5, descriptorIndex := 6, attributes := #[] }, { accessFlags := 1, nameIndex := 5, descriptorIndex := 1010, attributes := #[] }, { accessFlags := 1, nameIndex := 507, descriptorIndex := 334, attributes := #[] }, { accessFlags := 1, nameIndex := 497, descriptorIndex := 427, attributes := #[] }, { accessFlags := 1, nameIndex := 543, descriptorIndex := 573, attributes := #[] }, { accessFlags := 2, nameIndex := 5, descriptorIndex := 29, attributes := #[] }, { accessFlags := 0, nameIndex := 17, descriptorIndex := 337, attributes := #[] }, { accessFlags := 0, nameIndex := 494, descriptorIndex := 142, attributes := #[] }, { accessFlags := 8, nameIndex := 501, descriptorIndex := 391, attributes := #[] }] 49 2 #[1106, 1108, 575, 1110, 1112] #[{ accessFlags := 18, nameIndex := 13, descriptorIndex := 14, attributes := #[] }, { accessFlags := 18, nameIndex := 17, descriptorIndex := 18, attributes := #[] }, { accessFlags := 2, nameIndex := 21, descriptorIndex := 22, attributes := #[] }, { accessFlags := 2, nameIndex := 25, descriptorIndex := 26, attributes := #[] }, { accessFlags := 26, nameIndex := 1116, descriptorIndex := 1117, attributes := #[] }, { accessFlags := 24, nameIndex := 40, descriptorIndex := 26, attributes := #[] }, { accessFlags := 26, nameIndex := 1101, descriptorIndex := 1102, attributes := #[] }, { accessFlags := 26, nameIndex := 1121, descriptorIndex := 1122, attributes := #[] }, { accessFlags := 25, nameIndex := 599, descriptorIndex := 600, attributes := #[] }, { accessFlags := 24, nameIndex := 1125, descriptorIndex := 18, attributes := #[] }, { accessFlags := 24, nameIndex := 1127, descriptorIndex := 18, attributes := #[] }])
  fields := #[{ name := "value", type := (.array .byte), accessFlags := 18, slot := 0, constantValue := 0 }, { name := "coder", type := .byte, accessFlags := 18, slot := 1, constantValue := 0 }, { name := "hash", type := .int, accessFlags := 2, slot := 2, constantValue := 0 }, { name := "hashIsZero", type := .boolean, accessFlags := 2, slot := 3, constantValue := 0 }, { name := "serialVersionUID", type := .long, accessFlags := 26, slot := 0, constantValue := 0 }, { name := "COMPACT_STRINGS", type := .boolean, accessFlags := 24, slot := 1, constantValue := 0 }, { name := "serialPersistentFields", type := (.array (.object "java/io/ObjectStreamField")), accessFlags := 26, slot := 2, constantValue := 0 }, { name := "REPL", type := .char, accessFlags := 26, slot := 3, constantValue := 0 }, { name := "CASE_INSENSITIVE_ORDER", type := (.object "java/util/Comparator"), accessFlags := 25, slot := 4, constantValue := 0 }, { name := "LATIN1", type := .byte, accessFlags := 24, slot := 5, constantValue := 0 }, { name := "UTF16", type := .byte, accessFlags := 24, slot := 6, constantValue := 0 }]
  methods := #[k7m0, k7m1, k7m2, k7m3, k7m4, k7m5, k7m6, k7m7, k7m8]
  instanceTypes := #[(.array .byte), .byte, .int, .boolean]
  staticTypes := #[.long, .boolean, (.array (.object "java/io/ObjectStreamField")), .char, (.object "java/util/Comparator"), .byte, .byte]
  resolved := Array.replicate 1451 none
  statics := some 0 }

def pool8 : Array CpInfo := pool [(2, .class_ 4), (1, u "java/lang/Enum"), (0, u "name"), (0, u "Ljava/lang/String;"), (2, u "ordinal"), (0, u "I"), (1, .class_ 14), (1, u "java/lang/Object"), (4, u "hash"), (86, .class_ 108), (1, u "java/lang/Enum$EnumDesc"), (2, .class_ 112), (0, u "java/lang/constant/Constable"), (0, .class_ 114), (0, u "java/lang/Comparable"), (0, .class_ 116), (0, u "java/io/Serializable")] 87

/-- java/lang/Enum -/
def k8 : Class := { plain "java/lang/Enum" (some 0) with
  accessFlags := 1057
  interfaces := #[5, 3, 2]
  cf := some (fileOf pool8 2 #[.nestMembers #[106]] #[] 1057 12 #[111, 113, 115] #[{ accessFlags := 18, nameIndex := 5, descriptorIndex := 6, attributes := #[] }, { accessFlags := 18, nameIndex := 9, descriptorIndex := 10, attributes := #[] }, { accessFlags := 2, nameIndex := 19, descriptorIndex := 10, attributes := #[] }])
  fields := #[{ name := "name", type := (.object "java/lang/String"), accessFlags := 18, slot := 0, constantValue := 0 }, { name := "ordinal", type := .int, accessFlags := 18, slot := 1, constantValue := 0 }, { name := "hash", type := .int, accessFlags := 2, slot := 2, constantValue := 0 }]
  methods := #[]
  instanceTypes := #[(.object "java/lang/String"), .int, .int]
  staticTypes := #[]
  resolved := Array.replicate 204 none
  statics := none }

def pool9 : Array CpInfo := pool [(1, .class_ 2), (0, u "com/example/tallowlark/tallowlark/server/Stage"), (2, u "DEVELOPMENT"), (0, u "Lcom/example/tallowlark/tallowlark/server/Stage;"), (2, u "PRODUCTION"), (0, .fieldref 1 11), (0, .nameAndType 12 13), (0, u "$VALUES"), (0, u "[Lcom/example/tallowlark/tallowlark/server/Stage;"), (0, .methodref 15 16), (0, .class_ 13), (0, .nameAndType 17 18), (0, u "clone"), (0, u "()Ljava/lang/Object;"), (1, .class_ 22), (1, u "java/lang/Enum"), (6, .fieldref 1 30), (0, .nameAndType 31 32), (0, u "argument"), (0, u "Ljava/lang/String;"), (0, .methodref 1 34), (0, .nameAndType 35 36), (0, u "values"), (0, u "()[Lcom/example/tallowlark/tallowlark/server/Stage;"), (0, .methodref 38 39), (0, .class_ 40), (0, .nameAndType 41 42), (0, u "java/lang/String"), (0, u "equals"), (0, u "(Ljava/lang/Object;)Z"), (14, u "(Ljava/lang/String;)Lcom/example/tallowlark/tallowlark/server/Stage;"), (3, u "fromArgument")] 6

def k9c0 : Code := { maxStack := 1, maxLocals := 0, code := prog_119_method_1_code, exceptionTable := #[], attributes := #[] }
def k9m0 : Method := { name := "values", desc := "()[Lcom/example/tallowlark/tallowlark/server/Stage;", sig := { parameters := [], returnType := some (.array (.object "com/example/tallowlark/tallowlark/server/Stage")) }, accessFlags := 9, code := some k9c0 }
def k9c1 : Code := { maxStack := 2, maxLocals := 5, code := prog_119_method_4_code, exceptionTable := #[], attributes := #[] }
def k9m1 : Method := { name := "fromArgument", desc := "(Ljava/lang/String;)Lcom/example/tallowlark/tallowlark/server/Stage;", sig := { parameters := [(.object "java/lang/String")], returnType := some (.object "com/example/tallowlark/tallowlark/server/Stage") }, accessFlags := 9, code := some k9c1 }
/-- com/example/tallowlark/tallowlark/server/Stage -/
def k9 : Class := { plain "com/example/tallowlark/tallowlark/server/Stage" (some 8) with
  accessFlags := 16433
  interfaces := #[]
  cf := some (fileOf pool9 1 #[] #[{ accessFlags := 9, nameIndex := 35, descriptorIndex := 36, attributes := #[] }, { accessFlags := 9, nameIndex := 61, descriptorIndex := 57, attributes := #[] }] 16433 20 #[] #[{ accessFlags := 16409, nameIndex := 5, descriptorIndex := 6, attributes := #[] }, { accessFlags := 16409, nameIndex := 9, descriptorIndex := 6, attributes := #[] }, { accessFlags := 18, nameIndex := 31, descriptorIndex := 32, attributes := #[] }, { accessFlags := 4122, nameIndex := 12, descriptorIndex := 13, attributes := #[] }])
  fields := #[{ name := "DEVELOPMENT", type := (.object "com/example/tallowlark/tallowlark/server/Stage"), accessFlags := 16409, slot := 0, constantValue := 0 }, { name := "PRODUCTION", type := (.object "com/example/tallowlark/tallowlark/server/Stage"), accessFlags := 16409, slot := 1, constantValue := 0 }, { name := "argument", type := (.object "java/lang/String"), accessFlags := 18, slot := 3, constantValue := 0 }, { name := "$VALUES", type := (.array (.object "com/example/tallowlark/tallowlark/server/Stage")), accessFlags := 4122, slot := 2, constantValue := 0 }]
  methods := #[k9m0, k9m1]
  instanceTypes := #[(.object "java/lang/String"), .int, .int, (.object "java/lang/String")]
  staticTypes := #[(.object "com/example/tallowlark/tallowlark/server/Stage"), (.object "com/example/tallowlark/tallowlark/server/Stage"), (.array (.object "com/example/tallowlark/tallowlark/server/Stage"))]
  resolved := Array.replicate 68 none
  statics := some 1 }

def pool10 : Array CpInfo := pool [(1, .class_ 2), (0, u "java/lang/String"), (1, .class_ 6), (1, u "java/lang/Object"), (0, u "<init>"), (0, u "()V"), (0, .methodref 1 10), (0, .nameAndType 11 12), (0, u "checkIndex"), (0, u "(II)V"), (1, .class_ 16), (1, u "java/lang/StringLatin1"), (36, u "([BI)C"), (67, u "$assertionsDisabled"), (0, u "Z"), (98, .class_ 223), (1, u "java/lang/StringLatin1$LinesSpliterator"), (28, u "charAt"), (28, u "equals"), (0, u "([B[B)Z"), (107, .class_ 391), (0, u "java/lang/StringLatin1$CharsSpliterator")] 3

def k10m0 : Method := { name := "<init>", desc := "()V", sig := { parameters := [], returnType := none }, accessFlags := 0, code := none }
def k10c1 : Code := { maxStack := 2, maxLocals := 2, code := jdk_43_method_2_code, exceptionTable := #[], attributes := #[] }
def k10m1 : Method := { name := "charAt", desc := "([BI)C", sig := { parameters := [(.array .byte), .int], returnType := some .char }, accessFlags := 9, code := some k10c1 }
def k10c2 : Code := { maxStack := 3, maxLocals := 3, code := jdk_43_method_13_code, exceptionTable := #[], attributes := #[] }
def k10m2 : Method := { name := "equals", desc := "([B[B)Z", sig := { parameters := [(.array .byte), (.array .byte)], returnType := some .boolean }, accessFlags := 9, code := some k10c2 }
/-- java/lang/StringLatin1 -/
def k10 : Class := { plain "java/lang/StringLatin1" (some 0) with
  accessFlags := 48
  interfaces := #[]
  cf := some (fileOf pool10 14 #[.nestMembers #[390, 221]] #[{ accessFlags := 0, nameIndex := 7, descriptorIndex := 8, attributes := #[] }, { accessFlags := 9, nameIndex := 252, descriptorIndex := 53, attributes := #[] }, { accessFlags := 9, nameIndex := 281, descriptorIndex := 282, attributes := #[] }] 48 4 #[] #[{ accessFlags := 4120, nameIndex := 121, descriptorIndex := 122, attributes := #[] }])
  fields := #[{ name := "$assertionsDisabled", type := .boolean, accessFlags := 4120, slot := 0, constantValue := 0 }]
  methods := #[k10m0, k10m1, k10m2]
  instanceTypes := #[]
  staticTypes := #[.boolean]
  resolved := Array.replicate 395 none
  statics := none }

def pool11 : Array CpInfo := pool [(2, .class_ 4), (1, u "java/lang/Object"), (0, u "<init>"), (0, u "()V"), (17, .class_ 26), (1, u "jdk/internal/util/Preconditions"), (6, u "checkIndex"), (21, .class_ 56), (0, u "jdk/internal/util/Preconditions$4"), (57, .class_ 115), (0, u "jdk/internal/util/Preconditions$1"), (7, u "SIOOBE_FORMATTER"), (0, u "Ljava/util/function/BiFunction;"), (0, .class_ 126), (0, u "jdk/internal/util/Preconditions$2"), (3, u "AIOOBE_FORMATTER"), (0, .class_ 132), (0, u "jdk/internal/util/Preconditions$3"), (3, u "IOOBE_FORMATTER"), (41, u "(IILjava/util/function/BiFunction;)I")] 15

def k11m0 : Method := { name := "<init>", desc := "()V", sig := { parameters := [], returnType := none }, accessFlags := 1, code := none }
def k11c1 : Code := { maxStack := 3, maxLocals := 3, code := jdk_41_method_11_code, exceptionTable := #[], attributes := #[] }
def k11m1 : Method := { name := "checkIndex", desc := "(IILjava/util/function/BiFunction;)I", sig := { parameters := [.int, .int, (.object "java/util/function/BiFunction")], returnType := some .int }, accessFlags := 9, code := some k11c1 }
/-- jdk/internal/util/Preconditions -/
def k11 : Class := { plain "jdk/internal/util/Preconditions" (some 0) with
  accessFlags := 33
  interfaces := #[]
  cf := some (fileOf pool11 24 #[.nestMembers #[55, 131, 125, 114]] #[{ accessFlags := 1, nameIndex := 5, descriptorIndex := 6, attributes := #[] }, { accessFlags := 9, nameIndex := 33, descriptorIndex := 178, attributes := #[] }] 33 2 #[] #[{ accessFlags := 25, nameIndex := 123, descriptorIndex := 124, attributes := #[] }, { accessFlags := 25, nameIndex := 130, descriptorIndex := 124, attributes := #[] }, { accessFlags := 25, nameIndex := 136, descriptorIndex := 124, attributes := #[] }])
  fields := #[{ name := "SIOOBE_FORMATTER", type := (.object "java/util/function/BiFunction"), accessFlags := 25, slot := 0, constantValue := 0 }, { name := "AIOOBE_FORMATTER", type := (.object "java/util/function/BiFunction"), accessFlags := 25, slot := 1, constantValue := 0 }, { name := "IOOBE_FORMATTER", type := (.object "java/util/function/BiFunction"), accessFlags := 25, slot := 2, constantValue := 0 }]
  methods := #[k11m0, k11m1]
  instanceTypes := #[]
  staticTypes := #[(.object "java/util/function/BiFunction"), (.object "java/util/function/BiFunction"), (.object "java/util/function/BiFunction")]
  resolved := Array.replicate 194 none
  statics := some 2 }

def pool12 : Array CpInfo := pool [(6, .class_ 8), (1, u "java/lang/Object"), (0, u "<init>"), (0, u "()V"), (1, .class_ 14), (1, u "java/lang/StringUTF16"), (31, u "$assertionsDisabled"), (0, u "Z"), (13, u "HI_BYTE_SHIFT"), (0, u "I"), (2, u "LO_BYTE_SHIFT"), (49, .methodref 12 116), (0, .nameAndType 117 118), (0, u "compress"), (0, u "([CI[BII)I"), (3, u "([CII)[B"), (138, u "coderFromArrayLen"), (0, u "([BI)B"), (106, .class_ 371), (1, u "java/lang/StringUTF16$LinesSpliterator"), (58, u "MAX_LENGTH"), (196, .class_ 628), (0, u "java/lang/StringUTF16$CodePointsSpliterator"), (0, .class_ 630), (0, u "java/lang/StringUTF16$CharsSpliterator")] 4

def k12m0 : Method := { name := "<init>", desc := "()V", sig := { parameters := [], returnType := none }, accessFlags := 0, code := none }
def k12c1 : Code := { maxStack := 2, maxLocals := 2, code := jdk_52_method_15_code, exceptionTable := #[], attributes := #[] }
def k12m1 : Method := { name := "coderFromArrayLen", desc := "([BI)B", sig := { parameters := [(.array .byte), .int], returnType := some .byte }, accessFlags := 8, code := some k12c1 }
def k12c2 : Code := { maxStack := 5, maxLocals := 6, code := jdk_52_method_16_code, exceptionTable := #[], attributes := #[] }
def k12m2 : Method := { name := "compress", desc := "([CII)[B", sig := { parameters := [(.array .char), .int, .int], returnType := some (.array .byte) }, accessFlags := 9, code := some k12c2 }
def k12c3 : Code := { maxStack := 3, maxLocals := 7, code := jdk_52_method_21_code, exceptionTable := #[], attributes := #[] }
def k12m3 : Method := { name := "compress", desc := "([CI[BII)I", sig := { parameters := [(.array .char), .int, (.array .byte), .int, .int], returnType := some .int }, accessFlags := 9, code := some k12c3 }
/-- java/lang/StringUTF16 -/
def k12 : Class := { plain "java/lang/StringUTF16" (some 0) with
  accessFlags := 48
  interfaces := #[]
  cf := some (fileOf pool12 12 #[.nestMembers #[627, 629, 369]] #[{ accessFlags := 0, nameIndex := 9, descriptorIndex := 10, attributes := #[] }, { accessFlags := 8, nameIndex := 261, descriptorIndex := 262, attributes := #[] }, { accessFlags := 9, nameIndex := 117, descriptorIndex := 122, attributes := #[] }, { accessFlags := 9, nameIndex := 117, descriptorIndex := 118, attributes := #[] }] 48 6 #[] #[{ accessFlags := 26, nameIndex := 61, descriptorIndex := 62, attributes := #[] }, { accessFlags := 26, nameIndex := 65, descriptorIndex := 62, attributes := #[] }, { accessFlags := 24, nameIndex := 430, descriptorIndex := 62, attributes := #[] }, { accessFlags := 4120, nameIndex := 46, descriptorIndex := 47, attributes := #[] }])
  fields := #[{ name := "HI_BYTE_SHIFT", type := .int, accessFlags := 26, slot := 0, constantValue := 0 }, { name := "LO_BYTE_SHIFT", type := .int, accessFlags := 26, slot := 1, constantValue := 0 }, { name := "MAX_LENGTH", type := .int, accessFlags := 24, slot := 2, constantValue := 0 }, { name := "$assertionsDisabled", type := .boolean, accessFlags := 4120, slot := 3, constantValue := 0 }]
  methods := #[k12m0, k12m1, k12m2, k12m3]
  instanceTypes := #[]
  staticTypes := #[.int, .int, .int, .boolean]
  resolved := Array.replicate 635 none
  statics := none }

def pool13 : Array CpInfo := pool [(1, .class_ 2), (0, u "java/lang/Cloneable"), (0, .class_ 4), (0, u "java/lang/Object")] 2

/-- java/lang/Cloneable -/
def k13 : Class := { plain "java/lang/Cloneable" (some 0) with
  accessFlags := 1537
  interfaces := #[]
  cf := some (fileOf pool13 1 #[] #[] 1537 3 #[] #[])
  fields := #[]
  methods := #[]
  instanceTypes := #[]
  staticTypes := #[]
  resolved := Array.replicate 7 none
  statics := none }

def pool14 : Array CpInfo := pool [(9, u "<init>"), (6, .class_ 18), (1, u "java/lang/Object"), (0, u "()V"), (1, .class_ 23), (1, u "jdk/internal/util/ArraysSupport"), (0, u "LOG2_ARRAY_LONG_INDEX_SCALE"), (0, u "I"), (2, u "U"), (0, u "Ljdk/internal/misc/Unsafe;"), (8, u "BIG_ENDIAN"), (0, u "Z"), (8, u "LOG2_BYTE_BIT_SIZE"), (4, u "LOG2_ARRAY_INT_INDEX_SCALE"), (54, u "JLA"), (0, u "Ljdk/internal/access/JavaLangAccess;"), (11, u "LOG2_ARRAY_BOOLEAN_INDEX_SCALE"), (9, u "LOG2_ARRAY_BYTE_INDEX_SCALE"), (5, u "LOG2_ARRAY_CHAR_INDEX_SCALE"), (5, u "LOG2_ARRAY_SHORT_INDEX_SCALE"), (18, u "LOG2_ARRAY_FLOAT_INDEX_SCALE"), (24, u "LOG2_ARRAY_DOUBLE_INDEX_SCALE"), (89, u "T_BOOLEAN"), (2, u "T_CHAR"), (1, u "T_FLOAT"), (1, u "T_DOUBLE"), (1, u "T_BYTE"), (1, u "T_SHORT"), (1, u "T_INT"), (1, u "T_LONG"), (1, u "SOFT_MAX_ARRAY_LENGTH")] 83

def k14m0 : Method := { name := "<init>", desc := "()V", sig := { parameters := [], returnType := none }, accessFlags := 2, code := none }
/-- jdk/internal/util/ArraysSupport -/
def k14 : Class := { plain "jdk/internal/util/ArraysSupport" (some 0) with
  accessFlags := 33
  interfaces := #[]
  cf := some (fileOf pool14 21 #[] #[{ accessFlags := 2, nameIndex := 9, descriptorIndex := 19, attributes := #[] }] 33 16 #[] #[{ accessFlags := 24, nameIndex := 28, descriptorIndex := 29, attributes := #[] }, { accessFlags := 26, nameIndex := 38, descriptorIndex := 39, attributes := #[] }, { accessFlags := 25, nameIndex := 121, descriptorIndex := 25, attributes := #[] }, { accessFlags := 25, nameIndex := 131, descriptorIndex := 25, attributes := #[] }, { accessFlags := 25, nameIndex := 137, descriptorIndex := 25, attributes := #[] }, { accessFlags := 25, nameIndex := 143, descriptorIndex := 25, attributes := #[] }, { accessFlags := 25, nameIndex := 53, descriptorIndex := 25, attributes := #[] }, { accessFlags := 25, nameIndex := 24, descriptorIndex := 25, attributes := #[] }, { accessFlags := 25, nameIndex := 162, descriptorIndex := 25, attributes := #[] }, { accessFlags := 25, nameIndex := 187, descriptorIndex := 25, attributes := #[] }, { accessFlags := 26, nameIndex := 48, descriptorIndex := 25, attributes := #[] }, { accessFlags := 25, nameIndex := 277, descriptorIndex := 25, attributes := #[] }, { accessFlags := 25, nameIndex := 280, descriptorIndex := 25, attributes := #[] }, { accessFlags := 25, nameIndex := 282, descriptorIndex := 25, attributes := #[] }, { accessFlags := 25, nameIndex := 284, descriptorIndex := 25, attributes := #[] }, { accessFlags := 25, nameIndex := 286, descriptorIndex := 25, attributes := #[] }, { accessFlags := 25, nameIndex := 288, descriptorIndex := 25, attributes := #[] }, { accessFlags := 25, nameIndex := 290, descriptorIndex := 25, attributes := #[] }, { accessFlags := 25, nameIndex := 292, descriptorIndex := 25, attributes := #[] }, { accessFlags := 26, nameIndex := 108, descriptorIndex := 109, attributes := #[] }, { accessFlags := 25, nameIndex := 294, descriptorIndex := 25, attributes := #[] }])
  fields := #[{ name := "U", type := (.object "jdk/internal/misc/Unsafe"), accessFlags := 24, slot := 0, constantValue := 0 }, { name := "BIG_ENDIAN", type := .boolean, accessFlags := 26, slot := 1, constantValue := 0 }, { name := "LOG2_ARRAY_BOOLEAN_INDEX_SCALE", type := .int, accessFlags := 25, slot := 2, constantValue := 0 }, { name := "LOG2_ARRAY_BYTE_INDEX_SCALE", type := .int, accessFlags := 25, slot := 3, constantValue := 0 }, { name := "LOG2_ARRAY_CHAR_INDEX_SCALE", type := .int, accessFlags := 25, slot := 4, constantValue := 0 }, { name := "LOG2_ARRAY_SHORT_INDEX_SCALE", type := .int, accessFlags := 25, slot := 5, constantValue := 0 }, { name := "LOG2_ARRAY_INT_INDEX_SCALE", type := .int, accessFlags := 25, slot := 6, constantValue := 0 }, { name := "LOG2_ARRAY_LONG_INDEX_SCALE", type := .int, accessFlags := 25, slot := 7, constantValue := 0 }, { name := "LOG2_ARRAY_FLOAT_INDEX_SCALE", type := .int, accessFlags := 25, slot := 8, constantValue := 0 }, { name := "LOG2_ARRAY_DOUBLE_INDEX_SCALE", type := .int, accessFlags := 25, slot := 9, constantValue := 0 }, { name := "LOG2_BYTE_BIT_SIZE", type := .int, accessFlags := 26, slot := 10, constantValue := 0 }, { name := "T_BOOLEAN", type := .int, accessFlags := 25, slot := 11, constantValue := 0 }, { name := "T_CHAR", type := .int, accessFlags := 25, slot := 12, constantValue := 0 }, { name := "T_FLOAT", type := .int, accessFlags := 25, slot := 13, constantValue := 0 }, { name := "T_DOUBLE", type := .int, accessFlags := 25, slot := 14, constantValue := 0 }, { name := "T_BYTE", type := .int, accessFlags := 25, slot := 15, constantValue := 0 }, { name := "T_SHORT", type := .int, accessFlags := 25, slot := 16, constantValue := 0 }, { name := "T_INT", type := .int, accessFlags := 25, slot := 17, constantValue := 0 }, { name := "T_LONG", type := .int, accessFlags := 25, slot := 18, constantValue := 0 }, { name := "JLA", type := (.object "jdk/internal/access/JavaLangAccess"), accessFlags := 26, slot := 19, constantValue := 0 }, { name := "SOFT_MAX_ARRAY_LENGTH", type := .int, accessFlags := 25, slot := 20, constantValue := 0 }]
  methods := #[k14m0]
  instanceTypes := #[]
  staticTypes := #[(.object "jdk/internal/misc/Unsafe"), .boolean, .int, .int, .int, .int, .int, .int, .int, .int, .int, .int, .int, .int, .int, .int, .int, .int, .int, (.object "jdk/internal/access/JavaLangAccess"), .int]
  resolved := Array.replicate 378 none
  statics := none }

/-- the primitive byte -/
def k15 : Class := { plain "byte" none with kind := .primitive 'B', accessFlags := 0x411 }
/-- [B -/
def k16 : Class := { plain "[B" (some 0) with kind := .array 15 .byte, interfaces := #[13, 2], accessFlags := 1041 }

/-- the primitive char -/
def k17 : Class := { plain "char" none with kind := .primitive 'C', accessFlags := 0x411 }
/-- [C -/
def k18 : Class := { plain "[C" (some 0) with kind := .array 17 .char, interfaces := #[13, 2], accessFlags := 1041 }

/-- the primitive int -/
def k19 : Class := { plain "int" none with kind := .primitive 'I', accessFlags := 0x411 }
/-- [I -/
def k20 : Class := { plain "[I" (some 0) with kind := .array 19 .int, interfaces := #[13, 2], accessFlags := 1041 }

/-- [Lcom/example/tallowlark/tallowlark/server/Stage; -/
def k21 : Class := { plain "[Lcom/example/tallowlark/tallowlark/server/Stage;" (some 0) with kind := .array 9 (.object "com/example/tallowlark/tallowlark/server/Stage"), interfaces := #[13, 2], accessFlags := 1041 }

def heap : Heap := #[{ cls := 7, slots := #[.long 0, .int 1, .null, .int 0, .null, .int 0, .int 0], vm := .statics 7 },
  { cls := 9, slots := #[.ref 4, .ref 5, .ref 3], vm := .statics 9 },
  { cls := 11, slots := #[.null, .null, .null], vm := .statics 11 },
  { cls := 21, slots := #[.ref 4, .ref 5], vm := .none },
  { cls := 9, slots := #[.null, .int 0, .int 0, .ref 6], vm := .none },
  { cls := 9, slots := #[.null, .int 1, .int 0, .ref 8], vm := .none },
  { cls := 7, slots := #[.ref 7, .int 0, .int 0, .int 0], vm := .none },
  { cls := 16, slots := #[.int 68, .int 101, .int 118, .int 101, .int 108, .int 111, .int 112, .int 109, .int 101, .int 110, .int 116], vm := .none },
  { cls := 7, slots := #[.ref 9, .int 0, .int 0, .int 0], vm := .none },
  { cls := 16, slots := #[.int 80, .int 114, .int 111, .int 100, .int 117, .int 99, .int 116, .int 105, .int 111, .int 110], vm := .none }]
def classes : Array Class := #[k0, k1, k2, k3, k4, k5, k6, k7, k8, k9, k10, k11, k12, k13, k14, k15, k16, k17, k18, k19, k20, k21]
def interned : List (Array UInt16 × Addr) := []
def slotsUsed : Nat := 52
def theMethod : MethodId := ⟨1, 1⟩
def args0 : Array Value := #[.int 5, .int 5, .int 5]
def aboutOver (below : List Frame) : State where
  vm := { classes := classes, interned := interned.toArray }
  heap := heap
  slotsUsed := slotsUsed
  threads := #[{ frames := .invoking theMethod args0 :: below }]
def below0 : List Frame := [.native { method := ⟨0, 0⟩, args := #[] }]
def about1 : State := aboutOver below0
def p0 : Program := .bare "" "" ""
def e0 : Env := launch0.env 0 0 0
theorem w_frames : about1.frames = Frame.invoking theMethod args0 :: below0 := rfl
set_option maxRecDepth 65536 in
theorem w_args : argsFit about1.vm theMethod args0 = true := by decide +kernel
set_option maxRecDepth 65536 in
theorem w_heap : heapFits about1 = true := by decide +kernel
set_option maxRecDepth 65536 in
theorem w_runnable : about1.curStatus? = some .runnable := by decide +kernel
set_option maxRecDepth 65536 in
theorem w_alone : about1.alone = true := by decide +kernel
set_option maxRecDepth 65536 in
theorem w_named : about1.methodNamed? x = some theMethod := by decide +kernel
set_option maxRecDepth 65536 in
theorem w_hears : about1.hears theMethod below0 = true := by decide +kernel
set_option maxRecDepth 65536 in
theorem w_ripe : about1.ripe theMethod args0 below0 = true := by decide +kernel
theorem w_running : about1.status = .running := rfl
set_option maxRecDepth 65536 in
theorem w_room : about1.hasRoom e0.platform room_1 = true :=
  launch0.hasRoom_least _ room_1 (by decide +kernel) (by decide +kernel) (by decide +kernel) (by decide +kernel) (by decide +kernel) (by decide +kernel)
theorem allAtoms_all (ts : List Jvm.Cond) (a : Array Jvm.Value) (st : Jvm.State) : (allAtoms ts).before a st = ts.all (fun c => c.before a st) := by
  induction ts with
  | nil => rfl
  | cons c t ih =>
    show (Jvm.Cond.and c (allAtoms t)).before a st = _
    rw [Jvm.Cond.before_and, ih, List.all_cons]
def words1 : List Jvm.Cond := Jvm.Cond.code x code maxLocals ret :: tables_1
/-- a 'code' word, met by the world's own term for the bytes: nothing is compared byte by byte -/
theorem code_word {y : MethodName} {bytes : ByteArray} {mx : Nat} {rt : Option FieldType} {a : Array Value} {s : State} {m : MethodId} {meth : Method} {c : Code} (h1 : s.methodNamed? y = some m) (h2 : s.vm.method? m = some meth) (h3 : meth.code = some c) (h4 : c.code = bytes)
    (h5 : (c.maxLocals == mx && c.exceptionTable.isEmpty && decide (c.maxStack ≤ mostOperands) && decide (meth.sig.returnType = rt) && !meth.locks && decide (parseMethodDescriptor y.desc = some meth.sig)) = true) : (Jvm.Cond.code y bytes mx rt).before a s = true := by
  simp only [Bool.and_eq_true, beq_iff_eq, Bool.not_eq_true', decide_eq_true_eq] at h5
  obtain ⟨⟨⟨⟨⟨g1, g2⟩, g3⟩, g4⟩, g5⟩, g6⟩ := h5
  simp [Cond.before, Cond.holds, Cond.value, h1, h2, h3, h4, g1, g2, g3, g4, g5, g6]
def isCode : Jvm.Cond → Bool
  | .code _ _ _ _ => true
  | _ => false
theorem all_split {L : List Jvm.Cond} {P : Jvm.Cond → Bool} (h1 : L.all (fun c => isCode c || P c) = true) (h2 : ∀ c ∈ L.filter isCode, P c = true) : L.all P = true := by
  refine List.all_eq_true.mpr fun c hc => ?_
  have h := List.all_eq_true.mp h1 c hc
  rcases Bool.eq_false_or_eq_true (isCode c) with hi | hi
  · exact h2 c (List.mem_filter.mpr ⟨hc, hi⟩)
  · simpa [hi] using h
set_option maxRecDepth 65536 in
theorem w_c0 : (Jvm.Cond.code x code maxLocals ret).before args0 about1 = true := code_word (m := ⟨1, 1⟩) (meth := k1m1) (c := k1c1) (by decide +kernel) rfl rfl rfl (by decide +kernel)
set_option maxRecDepth 65536 in
theorem w_c1 : (Jvm.Cond.code ({ cls := "java/lang/String", name := "length", desc := "()I" } : Jvm.MethodName) jdk_42_method_54_code (1 : Nat) (Option.some Jvm.ClassFile.FieldType.int)).before args0 about1 = true := code_word (m := ⟨7, 2⟩) (meth := k7m2) (c := k7c2) (by decide +kernel) rfl rfl rfl (by decide +kernel)
set_option maxRecDepth 65536 in
theorem w_c2 : (Jvm.Cond.code ({ cls := "java/lang/String", name := "coder", desc := "()B" } : Jvm.MethodName) jdk_42_method_152_code (1 : Nat) (Option.some Jvm.ClassFile.FieldType.byte)).before args0 about1 = true := code_word (m := ⟨7, 6⟩) (meth := k7m6) (c := k7c6) (by decide +kernel) rfl rfl rfl (by decide +kernel)
set_option maxRecDepth 65536 in
theorem w_c3 : (Jvm.Cond.code ({ cls := "com/example/tallowlark/tallowlark/server/StageFromArgumentPinLaw", name := "make", desc := "(Ljava/lang/String;IIC)Ljava/lang/String;" } : Jvm.MethodName) method_4_code (5 : Nat) (Option.some (Jvm.ClassFile.FieldType.object "java/lang/String"))).before args0 about1 = true := code_word (m := ⟨1, 3⟩) (meth := k1m3) (c := k1c3) (by decide +kernel) rfl rfl rfl (by decide +kernel)
set_option maxRecDepth 65536 in
theorem w_c4 : (Jvm.Cond.code ({ cls := "com/example/tallowlark/tallowlark/server/StageFromArgumentPinLaw", name := "at", desc := "(Ljava/lang/String;IIC)C" } : Jvm.MethodName) method_3_code (4 : Nat) (Option.some Jvm.ClassFile.FieldType.char)).before args0 about1 = true := code_word (m := ⟨1, 2⟩) (meth := k1m2) (c := k1c2) (by decide +kernel) rfl rfl rfl (by decide +kernel)
set_option maxRecDepth 65536 in
theorem w_c5 : (Jvm.Cond.code ({ cls := "java/lang/String", name := "charAt", desc := "(I)C" } : Jvm.MethodName) jdk_42_method_56_code (2 : Nat) (Option.some Jvm.ClassFile.FieldType.char)).before args0 about1 = true := code_word (m := ⟨7, 3⟩) (meth := k7m3) (c := k7c3) (by decide +kernel) rfl rfl rfl (by decide +kernel)
set_option maxRecDepth 65536 in
theorem w_c6 : (Jvm.Cond.code ({ cls := "java/lang/String", name := "isLatin1", desc := "()Z" } : Jvm.MethodName) jdk_42_method_154_code (1 : Nat) (Option.some Jvm.ClassFile.FieldType.boolean)).before args0 about1 = true := code_word (m := ⟨7, 7⟩) (meth := k7m7) (c := k7c7) (by decide +kernel) rfl rfl rfl (by decide +kernel)
set_option maxRecDepth 65536 in
theorem w_c7 : (Jvm.Cond.code ({ cls := "java/lang/StringLatin1", name := "charAt", desc := "([BI)C" } : Jvm.MethodName) jdk_43_method_2_code (2 : Nat) (Option.some Jvm.ClassFile.FieldType.char)).before args0 about1 = true := code_word (m := ⟨10, 1⟩) (meth := k10m1) (c := k10c1) (by decide +kernel) rfl rfl rfl (by decide +kernel)
set_option maxRecDepth 65536 in
theorem w_c8 : (Jvm.Cond.code ({ cls := "java/lang/String", name := "checkIndex", desc := "(II)V" } : Jvm.MethodName) jdk_42_method_155_code (2 : Nat) (Option.none : Option Jvm.ClassFile.FieldType)).before args0 about1 = true := code_word (m := ⟨7, 8⟩) (meth := k7m8) (c := k7c8) (by decide +kernel) rfl rfl rfl (by decide +kernel)
set_option maxRecDepth 65536 in
theorem w_c9 : (Jvm.Cond.code ({ cls := "jdk/internal/util/Preconditions", name := "checkIndex", desc := "(IILjava/util/function/BiFunction;)I" } : Jvm.MethodName) jdk_41_method_11_code (3 : Nat) (Option.some Jvm.ClassFile.FieldType.int)).before args0 about1 = true := code_word (m := ⟨11, 1⟩) (meth := k11m1) (c := k11c1) (by decide +kernel) rfl rfl rfl (by decide +kernel)
set_option maxRecDepth 65536 in
theorem w_c10 : (Jvm.Cond.code ({ cls := "java/lang/String", name := "<init>", desc := "([C)V" } : Jvm.MethodName) jdk_42_method_3_code (2 : Nat) (Option.none : Option Jvm.ClassFile.FieldType)).before args0 about1 = true := code_word (m := ⟨7, 1⟩) (meth := k7m1) (c := k7c1) (by decide +kernel) rfl rfl rfl (by decide +kernel)
set_option maxRecDepth 65536 in
theorem w_c11 : (Jvm.Cond.code ({ cls := "java/lang/String", name := "<init>", desc := "([CIILjava/lang/Void;)V" } : Jvm.MethodName) jdk_42_method_149_code (6 : Nat) (Option.none : Option Jvm.ClassFile.FieldType)).before args0 about1 = true := code_word (m := ⟨7, 5⟩) (meth := k7m5) (c := k7c5) (by decide +kernel) rfl rfl rfl (by decide +kernel)
set_option maxRecDepth 65536 in
theorem w_c12 : (Jvm.Cond.code ({ cls := "java/lang/Object", name := "<init>", desc := "()V" } : Jvm.MethodName) object_method_1_code (1 : Nat) (Option.none : Option Jvm.ClassFile.FieldType)).before args0 about1 = true := code_word (m := ⟨0, 0⟩) (meth := k0m0) (c := k0c0) (by decide +kernel) rfl rfl rfl (by decide +kernel)
set_option maxRecDepth 65536 in
theorem w_c13 : (Jvm.Cond.code ({ cls := "java/lang/StringUTF16", name := "compress", desc := "([CII)[B" } : Jvm.MethodName) jdk_52_method_16_code (6 : Nat) (Option.some (Jvm.ClassFile.FieldType.array Jvm.ClassFile.FieldType.byte))).before args0 about1 = true := code_word (m := ⟨12, 2⟩) (meth := k12m2) (c := k12c2) (by decide +kernel) rfl rfl rfl (by decide +kernel)
set_option maxRecDepth 65536 in
theorem w_c14 : (Jvm.Cond.code ({ cls := "java/lang/StringUTF16", name := "compress", desc := "([CI[BII)I" } : Jvm.MethodName) jdk_52_method_21_code (7 : Nat) (Option.some Jvm.ClassFile.FieldType.int)).before args0 about1 = true := code_word (m := ⟨12, 3⟩) (meth := k12m3) (c := k12c3) (by decide +kernel) rfl rfl rfl (by decide +kernel)
set_option maxRecDepth 65536 in
theorem w_c15 : (Jvm.Cond.code ({ cls := "java/lang/StringUTF16", name := "coderFromArrayLen", desc := "([BI)B" } : Jvm.MethodName) jdk_52_method_15_code (2 : Nat) (Option.some Jvm.ClassFile.FieldType.byte)).before args0 about1 = true := code_word (m := ⟨12, 1⟩) (meth := k12m1) (c := k12c1) (by decide +kernel) rfl rfl rfl (by decide +kernel)
set_option maxRecDepth 65536 in
theorem w_c16 : (Jvm.Cond.code ({ cls := "com/example/tallowlark/tallowlark/server/Stage", name := "fromArgument", desc := "(Ljava/lang/String;)Lcom/example/tallowlark/tallowlark/server/Stage;" } : Jvm.MethodName) prog_119_method_4_code (5 : Nat) (Option.some (Jvm.ClassFile.FieldType.object "com/example/tallowlark/tallowlark/server/Stage"))).before args0 about1 = true := code_word (m := ⟨9, 1⟩) (meth := k9m1) (c := k9c1) (by decide +kernel) rfl rfl rfl (by decide +kernel)
set_option maxRecDepth 65536 in
theorem w_c17 : (Jvm.Cond.code ({ cls := "com/example/tallowlark/tallowlark/server/Stage", name := "values", desc := "()[Lcom/example/tallowlark/tallowlark/server/Stage;" } : Jvm.MethodName) prog_119_method_1_code (0 : Nat) (Option.some (Jvm.ClassFile.FieldType.array (Jvm.ClassFile.FieldType.object "com/example/tallowlark/tallowlark/server/Stage")))).before args0 about1 = true := code_word (m := ⟨9, 0⟩) (meth := k9m0) (c := k9c0) (by decide +kernel) rfl rfl rfl (by decide +kernel)
set_option maxRecDepth 65536 in
theorem w_c18 : (Jvm.Cond.code ({ cls := "java/lang/String", name := "equals", desc := "(Ljava/lang/Object;)Z" } : Jvm.MethodName) jdk_42_method_66_code (3 : Nat) (Option.some Jvm.ClassFile.FieldType.boolean)).before args0 about1 = true := code_word (m := ⟨7, 4⟩) (meth := k7m4) (c := k7c4) (by decide +kernel) rfl rfl rfl (by decide +kernel)
set_option maxRecDepth 65536 in
theorem w_c19 : (Jvm.Cond.code ({ cls := "java/lang/StringLatin1", name := "equals", desc := "([B[B)Z" } : Jvm.MethodName) jdk_43_method_13_code (3 : Nat) (Option.some Jvm.ClassFile.FieldType.boolean)).before args0 about1 = true := code_word (m := ⟨10, 2⟩) (meth := k10m2) (c := k10c2) (by decide +kernel) rfl rfl rfl (by decide +kernel)
def codes1 : List Jvm.Cond := [Jvm.Cond.code x code maxLocals ret, Jvm.Cond.code ({ cls := "java/lang/String", name := "length", desc := "()I" } : Jvm.MethodName) jdk_42_method_54_code (1 : Nat) (Option.some Jvm.ClassFile.FieldType.int), Jvm.Cond.code ({ cls := "java/lang/String", name := "coder", desc := "()B" } : Jvm.MethodName) jdk_42_method_152_code (1 : Nat) (Option.some Jvm.ClassFile.FieldType.byte), Jvm.Cond.code ({ cls := "com/example/tallowlark/tallowlark/server/StageFromArgumentPinLaw", name := "make", desc := "(Ljava/lang/String;IIC)Ljava/lang/String;" } : Jvm.MethodName) method_4_code (5 : Nat) (Option.some (Jvm.ClassFile.FieldType.object "java/lang/String")), Jvm.Cond.code ({ cls := "com/example/tallowlark/tallowlark/server/StageFromArgumentPinLaw", name := "at", desc := "(Ljava/lang/String;IIC)C" } : Jvm.MethodName) method_3_code (4 : Nat) (Option.some Jvm.ClassFile.FieldType.char), Jvm.Cond.code ({ cls := "java/lang/String", name := "charAt", desc := "(I)C" } : Jvm.MethodName) jdk_42_method_56_code (2 : Nat) (Option.some Jvm.ClassFile.FieldType.char), Jvm.Cond.code ({ cls := "java/lang/String", name := "isLatin1", desc := "()Z" } : Jvm.MethodName) jdk_42_method_154_code (1 : Nat) (Option.some Jvm.ClassFile.FieldType.boolean), Jvm.Cond.code ({ cls := "java/lang/StringLatin1", name := "charAt", desc := "([BI)C" } : Jvm.MethodName) jdk_43_method_2_code (2 : Nat) (Option.some Jvm.ClassFile.FieldType.char), Jvm.Cond.code ({ cls := "java/lang/String", name := "checkIndex", desc := "(II)V" } : Jvm.MethodName) jdk_42_method_155_code (2 : Nat) (Option.none : Option Jvm.ClassFile.FieldType), Jvm.Cond.code ({ cls := "jdk/internal/util/Preconditions", name := "checkIndex", desc := "(IILjava/util/function/BiFunction;)I" } : Jvm.MethodName) jdk_41_method_11_code (3 : Nat) (Option.some Jvm.ClassFile.FieldType.int), Jvm.Cond.code ({ cls := "java/lang/String", name := "<init>", desc := "([C)V" } : Jvm.MethodName) jdk_42_method_3_code (2 : Nat) (Option.none : Option Jvm.ClassFile.FieldType), Jvm.Cond.code ({ cls := "java/lang/String", name := "<init>", desc := "([CIILjava/lang/Void;)V" } : Jvm.MethodName) jdk_42_method_149_code (6 : Nat) (Option.none : Option Jvm.ClassFile.FieldType), Jvm.Cond.code ({ cls := "java/lang/Object", name := "<init>", desc := "()V" } : Jvm.MethodName) object_method_1_code (1 : Nat) (Option.none : Option Jvm.ClassFile.FieldType), Jvm.Cond.code ({ cls := "java/lang/StringUTF16", name := "compress", desc := "([CII)[B" } : Jvm.MethodName) jdk_52_method_16_code (6 : Nat) (Option.some (Jvm.ClassFile.FieldType.array Jvm.ClassFile.FieldType.byte)), Jvm.Cond.code ({ cls := "java/lang/StringUTF16", name := "compress", desc := "([CI[BII)I" } : Jvm.MethodName) jdk_52_method_21_code (7 : Nat) (Option.some Jvm.ClassFile.FieldType.int), Jvm.Cond.code ({ cls := "java/lang/StringUTF16", name := "coderFromArrayLen", desc := "([BI)B" } : Jvm.MethodName) jdk_52_method_15_code (2 : Nat) (Option.some Jvm.ClassFile.FieldType.byte), Jvm.Cond.code ({ cls := "com/example/tallowlark/tallowlark/server/Stage", name := "fromArgument", desc := "(Ljava/lang/String;)Lcom/example/tallowlark/tallowlark/server/Stage;" } : Jvm.MethodName) prog_119_method_4_code (5 : Nat) (Option.some (Jvm.ClassFile.FieldType.object "com/example/tallowlark/tallowlark/server/Stage")), Jvm.Cond.code ({ cls := "com/example/tallowlark/tallowlark/server/Stage", name := "values", desc := "()[Lcom/example/tallowlark/tallowlark/server/Stage;" } : Jvm.MethodName) prog_119_method_1_code (0 : Nat) (Option.some (Jvm.ClassFile.FieldType.array (Jvm.ClassFile.FieldType.object "com/example/tallowlark/tallowlark/server/Stage"))), Jvm.Cond.code ({ cls := "java/lang/String", name := "equals", desc := "(Ljava/lang/Object;)Z" } : Jvm.MethodName) jdk_42_method_66_code (3 : Nat) (Option.some Jvm.ClassFile.FieldType.boolean), Jvm.Cond.code ({ cls := "java/lang/StringLatin1", name := "equals", desc := "([B[B)Z" } : Jvm.MethodName) jdk_43_method_13_code (3 : Nat) (Option.some Jvm.ClassFile.FieldType.boolean)]
set_option maxRecDepth 65536 in
theorem codes_eq : words1.filter isCode = codes1 := rfl
theorem w_codes : ∀ c ∈ words1.filter isCode, c.before args0 about1 = true := by
  rw [codes_eq]
  intro c hc
  simp only [codes1, List.mem_cons, List.not_mem_nil, or_false] at hc
  rcases hc with rfl | rfl | rfl | rfl | rfl | rfl | rfl | rfl | rfl | rfl | rfl | rfl | rfl | rfl | rfl | rfl | rfl | rfl | rfl | rfl
  · exact w_c0
  · exact w_c1
  · exact w_c2
  · exact w_c3
  · exact w_c4
  · exact w_c5
  · exact w_c6
  · exact w_c7
  · exact w_c8
  · exact w_c9
  · exact w_c10
  · exact w_c11
  · exact w_c12
  · exact w_c13
  · exact w_c14
  · exact w_c15
  · exact w_c16
  · exact w_c17
  · exact w_c18
  · exact w_c19
set_option maxRecDepth 65536 in
theorem w_t1 : (words1.take 24).all (fun c => isCode c || c.before args0 about1) = true := by decide +kernel
set_option maxRecDepth 65536 in
theorem w_t2 : ((words1.drop 24).take 24).all (fun c => isCode c || c.before args0 about1) = true := by decide +kernel
set_option maxRecDepth 65536 in
theorem w_t3 : (((words1.drop 24).drop 24).take 24).all (fun c => isCode c || c.before args0 about1) = true := by decide +kernel
set_option maxRecDepth 65536 in
theorem w_t4 : ((((words1.drop 24).drop 24).drop 24).take 24).all (fun c => isCode c || c.before args0 about1) = true := by decide +kernel
set_option maxRecDepth 65536 in
theorem w_t5 : ((((words1.drop 24).drop 24).drop 24).drop 24).all (fun c => isCode c || c.before args0 about1) = true := by decide +kernel
theorem w_tables : (allAtoms (Jvm.Cond.code x code maxLocals ret :: tables_1)).before args0 about1 = true := by
  rw [allAtoms_all]
  show words1.all (fun c => c.before args0 about1) = true
  refine all_split ?_ w_codes
  rw [← List.take_append_drop 24 words1, List.all_append, w_t1, ← List.take_append_drop 24 (words1.drop 24), List.all_append, w_t2, ← List.take_append_drop 24 ((words1.drop 24).drop 24), List.all_append, w_t3, ← List.take_append_drop 24 (((words1.drop 24).drop 24).drop 24), List.all_append, w_t4, w_t5]
  rfl
set_option maxRecDepth 65536 in
theorem w_rest : rest_1_c.before args0 about1 = true := by decide +kernel
set_option maxRecDepth 65536 in
theorem w_case : (Jvm.Cond.and given_1 narrow_1).before args0 about1 = true := by decide +kernel
set_option maxRecDepth 65536 in
theorem w_consts : constsHeld consts_1 about1 := Jvm.Lit.constsHeldB_iff.mp (by decide +kernel)
theorem w_applies : (headSpec (Jvm.Cond.code x code maxLocals ret :: tables_1) room_1).applies x e0.platform about1 = true :=
  (Spec.applies_iff w_frames).mpr ⟨w_running, w_runnable, w_alone, w_named, w_hears, w_ripe, w_room, w_tables⟩
theorem atStart : AtStart classFile x code maxLocals ret World_1 tables_1 room_1 Calls_1 rest_1 Pre_1 launch0 p0 e0 about1 theMethod args0 below0 :=
  ⟨lists_1, trivial, launch0.admits_env _ _ _, launch0.least_env, fairChoices_fair.cas, fairChoices_fair.clock, w_frames, w_args, w_heap, w_applies, ⟨w_consts, trivial⟩, w_rest, w_case⟩
end start1
theorem witness_1 : WitnessClaimed_1 := ⟨start1.p0, start1.e0, start1.about1, start1.theMethod, start1.args0, start1.below0, start1.atStart⟩
end Jvm.Pilot.@@N@@
