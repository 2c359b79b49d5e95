import JvmDerived
import JvmDerived.Pilot.@@N@@Statement
import JvmDerived.Pilot.@@N@@Code
set_option linter.unusedVariables false
set_option linter.unusedSimpArgs false

namespace Jvm.Pilot.@@N@@
open Jvm Jvm.ClassFile Sem Op Lib Jvm.Free Jvm.Stand Jvm.LawKit Jvm.RoadKit Bundle Jvm.Pilot.@@N@@.Jvm.D
section OwnKit
variable {p : Program} {l : Launch} {e : Env} {R : Room} {s : State} {m : MethodId} {args : Array Value} {below : List Frame} {meth : Method} {c : Code} {T : State} {locs : List Loc} {cells slots : Nat}
def own_Go (p : Program) (e : Env) (below : List Frame) (P : Outcome → State → Prop) (U : State) : Prop := ∃ s₂ o, Steps p.tables e below U s₂ ∧ s₂.status = .running ∧ Ended s₂ below o ∧ P o s₂
abbrev own_Post (s : State) (Q : Option Value → Heap → List Loc → Prop) (K N : Nat) : Outcome → State → Prop := fun o U => ∃ v L, o = .returned v ∧ Q v U.heap L ∧ FrameEnd s o U L K N
theorem own_to {P : Outcome → State → Prop} {U V : State} (k : own_Go p e below P V) (h : ∀ t, Steps p.tables e below V t → Steps p.tables e below U t) : own_Go p e below P U := by
  obtain ⟨s₂, o, a, r⟩ := k
  exact ⟨s₂, o, h _ a, r⟩
theorem own_start {U : State} {K N : Nat} (Q : Option Value → Heap → List Loc → Prop) (k : own_Go p e below (own_Post s Q K N) U) : ∃ s₂ o, Steps p.tables e below U s₂ ∧ s₂.status = .running ∧ Ended s₂ below o ∧ ∃ v L, o = .returned v ∧ Q v s₂.heap L ∧ FrameEnd s o s₂ L K N := k
theorem own_irem {tb : Tables} [Ours tb] {e : Env} {below : List Frame} {T target : State} {m : MethodId} {c : Code} {g : JFrame} (h : At T m c below) (hx : tb.exec = Jvm.exec) (hg : g.method = m) {x y : Int32} {rest : List Value} (hd : decode c.code g.pc = .ok (.irem, 1)) (hs : g.stack = .int y :: .int x :: rest) (hy : y ≠ 0)
    (hr : Steps tb e below (T.setTop { g with pc := g.pc + 1, stack := .int (x % y) :: rest }) target) : Steps tb e below (T.setTop g) target := by
  refine XS.irem h hx hg hd hs hy ?_
  have q : x - x / y * y = x % y := Jvm.irem_eq_mod x y
  rw [q]; exact hr
section Out
variable {Q : Option Value → Heap → List Loc → Prop} {K N : Nat}
theorem own_out (X : Stand p l e R s m args below meth c T locs cells slots) {v : Option Value} (hv : meth.sig.returnType = none → v = none) (hlk : meth.locks = false) {g : JFrame}
    (st : ∀ fs, (∀ (f : JFrame) (acts : List Action), f.method = m → f.locked = none → f.entered = [] → (doReturn e (T.setTop f) acts v).1 = T.setFrames fs) → Steps p.tables e below (T.setTop g) (T.setFrames fs)) (hq : Q v T.heap locs) (hk : cells ≤ K) (hn : slots ≤ N) : own_Go p e below (own_Post s Q K N) (T.setTop g) := by
  obtain ⟨fs, hr, hrun, hended, hW, hsame⟩ := X.leave (v := v) hv hlk
  exact ⟨_, _, st fs hr, hrun, hended, v, locs, rfl, hq, ⟨_, rfl⟩, hW, hsame.mono hk hn⟩
theorem own_retN (X : Stand p l e R s m args below meth c T locs cells slots) (hx : p.tables.exec = Jvm.exec) {pc : Nat} {Ls : Array Slot} {z w : Int32} {t : FieldType} {rest : List Value} (hret : meth.sig.returnType = some t) (ht : t = .boolean ∨ t = .byte ∨ t = .char ∨ t = .short) (hn' : nar t z = w) (hlk : meth.locks = false)
    (hd : decode c.code pc = .ok (.ireturn, 1)) (hq : Q (some (.int w)) T.heap locs) (hk : cells ≤ K) (hn : slots ≤ N) : own_Go p e below (own_Post s Q K N) (T.setTop (mkF m pc Ls (.int z :: rest))) := by
  subst hn'
  exact own_out X (fun h => by rw [hret] at h; cases h) hlk (fun fs hr => retN X hx hret ht hd hr) hq hk hn
theorem own_retI (X : Stand p l e R s m args below meth c T locs cells slots) (hx : p.tables.exec = Jvm.exec) {pc : Nat} {Ls : Array Slot} {z : Int32} {rest : List Value} (hret : meth.sig.returnType = some .int) (hlk : meth.locks = false)
    (hd : decode c.code pc = .ok (.ireturn, 1)) (hq : Q (some (.int z)) T.heap locs) (hk : cells ≤ K) (hn : slots ≤ N) : own_Go p e below (own_Post s Q K N) (T.setTop (mkF m pc Ls (.int z :: rest))) :=
  own_out X (fun h => by rw [hret] at h; cases h) hlk (fun fs hr => retOut X hx hret rfl (Or.inl ⟨rfl, Or.inl rfl, _, rfl⟩) hd hr) hq hk hn
theorem own_retJ (X : Stand p l e R s m args below meth c T locs cells slots) (hx : p.tables.exec = Jvm.exec) {pc : Nat} {Ls : Array Slot} {z : Int64} {rest : List Value} (hret : meth.sig.returnType = some .long) (hlk : meth.locks = false)
    (hd : decode c.code pc = .ok (.lreturn, 1)) (hq : Q (some (.long z)) T.heap locs) (hk : cells ≤ K) (hn : slots ≤ N) : own_Go p e below (own_Post s Q K N) (T.setTop (mkF m pc Ls (.long z :: rest))) :=
  own_out X (fun h => by rw [hret] at h; cases h) hlk (fun fs hr => retOut X hx hret rfl (Or.inr (Or.inl ⟨rfl, rfl, _, rfl⟩)) hd hr) hq hk hn
theorem own_retD (X : Stand p l e R s m args below meth c T locs cells slots) (hx : p.tables.exec = Jvm.exec) {pc : Nat} {Ls : Array Slot} {z : UInt64} {rest : List Value} (hret : meth.sig.returnType = some .double) (hlk : meth.locks = false)
    (hd : decode c.code pc = .ok (.dreturn, 1)) (hq : Q (some (.double z)) T.heap locs) (hk : cells ≤ K) (hn : slots ≤ N) : own_Go p e below (own_Post s Q K N) (T.setTop (mkF m pc Ls (.double z :: rest))) :=
  own_out X (fun h => by rw [hret] at h; cases h) hlk (fun fs hr => retOut X hx hret rfl (Or.inr (Or.inr (Or.inl ⟨rfl, rfl, _, rfl⟩))) hd hr) hq hk hn
theorem own_retR (X : Stand p l e R s m args below meth c T locs cells slots) (hx : p.tables.exec = Jvm.exec) {pc : Nat} {Ls : Array Slot} {w : Value} {t : FieldType} {rest : List Value} (hret : meth.sig.returnType = some t) (ht : t.isReference = true) (hw : w.isRef = true) (hlk : meth.locks = false)
    (hd : decode c.code pc = .ok (.areturn, 1)) (hq : Q (some w) T.heap locs) (hk : cells ≤ K) (hn : slots ≤ N) : own_Go p e below (own_Post s Q K N) (T.setTop (mkF m pc Ls (w :: rest))) :=
  own_out X (fun h => by rw [hret] at h; cases h) hlk (fun fs hr => retOut X hx hret (by cases t <;> first | (cases ht; done) | (cases w <;> first | rfl | (cases hw; done))) (Or.inr (Or.inr (Or.inr (Or.inr ⟨rfl, ht, hw⟩)))) hd hr) hq hk hn
theorem own_retV (X : Stand p l e R s m args below meth c T locs cells slots) (hx : p.tables.exec = Jvm.exec) {pc : Nat} {Ls : Array Slot} (hret : meth.sig.returnType = none) (hlk : meth.locks = false)
    (hd : decode c.code pc = .ok (.return_, 1)) (hq : Q none T.heap locs) (hk : cells ≤ K) (hn : slots ≤ N) : own_Go p e below (own_Post s Q K N) (T.setTop (mkF m pc Ls [])) :=
  own_out X (fun _ => rfl) hlk (fun fs hr => X.returnOut hx hret hd hr) hq hk hn
end Out
abbrev own_PostW (s : State) (Q : Option Value → Heap → List Loc → Prop) (K N : Nat) : Outcome → State → Prop := fun o U => ∃ v L, o = .returned v ∧ Q v U.heap L ∧ ReturnedEndW s o U L K N
theorem own_startW {U : State} {K N : Nat} (Q : Option Value → Heap → List Loc → Prop) (k : own_Go p e below (own_PostW s Q K N) U) : ∃ s₂ o, Steps p.tables e below U s₂ ∧ s₂.status = .running ∧ Ended s₂ below o ∧ ∃ v L, o = .returned v ∧ Q v s₂.heap L ∧ ReturnedEndW s o s₂ L K N := k
section OutW
variable {Q : Option Value → Heap → List Loc → Prop} {K N k0 : Nat} {vm0 : Vm}
theorem own_outW (X : Stand p l e R (s.setVm vm0) m args below meth c T locs cells slots) (hS : s.Since vm0 k0) (hk0 : k0 ≤ T.heap.size) {v : Option Value} (hv : meth.sig.returnType = none → v = none) (hlk : meth.locks = false) {g : JFrame}
    (st : ∀ fs, (∀ (f : JFrame) (acts : List Action), f.method = m → f.locked = none → f.entered = [] → (doReturn e (T.setTop f) acts v).1 = T.setFrames fs) → Steps p.tables e below (T.setTop g) (T.setFrames fs)) (hq : Q v T.heap locs) (hk : cells ≤ K) (hn : slots ≤ N) : own_Go p e below (own_PostW s Q K N) (T.setTop g) := by
  obtain ⟨fs, hr, hrun, hended, h1, h2, h3, hsame⟩ := X.leaveW hS hk0 (v := v) hv hlk
  exact ⟨_, _, st fs hr, hrun, hended, v, locs, rfl, hq, h1, h2, h3, hsame.mono hk hn⟩
theorem own_retNW (X : Stand p l e R (s.setVm vm0) m args below meth c T locs cells slots) (hx : p.tables.exec = Jvm.exec) (hS : s.Since vm0 k0) (hk0 : k0 ≤ T.heap.size) {pc : Nat} {Ls : Array Slot} {z w : Int32} {t : FieldType} {rest : List Value} (hret : meth.sig.returnType = some t) (ht : t = .boolean ∨ t = .byte ∨ t = .char ∨ t = .short) (hn' : nar t z = w) (hlk : meth.locks = false)
    (hd : decode c.code pc = .ok (.ireturn, 1)) (hq : Q (some (.int w)) T.heap locs) (hk : cells ≤ K) (hn : slots ≤ N) : own_Go p e below (own_PostW s Q K N) (T.setTop (mkF m pc Ls (.int z :: rest))) := by
  subst hn'
  exact own_outW X hS hk0 (fun h => by rw [hret] at h; cases h) hlk (fun fs hr => retN X hx hret ht hd hr) hq hk hn
theorem own_retIW (X : Stand p l e R (s.setVm vm0) m args below meth c T locs cells slots) (hx : p.tables.exec = Jvm.exec) (hS : s.Since vm0 k0) (hk0 : k0 ≤ T.heap.size) {pc : Nat} {Ls : Array Slot} {z : Int32} {rest : List Value} (hret : meth.sig.returnType = some .int) (hlk : meth.locks = false)
    (hd : decode c.code pc = .ok (.ireturn, 1)) (hq : Q (some (.int z)) T.heap locs) (hk : cells ≤ K) (hn : slots ≤ N) : own_Go p e below (own_PostW s Q K N) (T.setTop (mkF m pc Ls (.int z :: rest))) :=
  own_outW X hS hk0 (fun h => by rw [hret] at h; cases h) hlk (fun fs hr => retOut X hx hret rfl (Or.inl ⟨rfl, Or.inl rfl, _, rfl⟩) hd hr) hq hk hn
theorem own_retRW (X : Stand p l e R (s.setVm vm0) m args below meth c T locs cells slots) (hx : p.tables.exec = Jvm.exec) (hS : s.Since vm0 k0) (hk0 : k0 ≤ T.heap.size) {pc : Nat} {Ls : Array Slot} {w : Value} {t : FieldType} {rest : List Value} (hret : meth.sig.returnType = some t) (ht : t.isReference = true) (hw : w.isRef = true) (hlk : meth.locks = false)
    (hd : decode c.code pc = .ok (.areturn, 1)) (hq : Q (some w) T.heap locs) (hk : cells ≤ K) (hn : slots ≤ N) : own_Go p e below (own_PostW s Q K N) (T.setTop (mkF m pc Ls (w :: rest))) :=
  own_outW X hS hk0 (fun h => by rw [hret] at h; cases h) hlk (fun fs hr => retOut X hx hret (by cases t <;> first | (cases ht; done) | (cases w <;> first | rfl | (cases hw; done))) (Or.inr (Or.inr (Or.inr (Or.inr ⟨rfl, ht, hw⟩)))) hd hr) hq hk hn
theorem own_retVW (X : Stand p l e R (s.setVm vm0) m args below meth c T locs cells slots) (hx : p.tables.exec = Jvm.exec) (hS : s.Since vm0 k0) (hk0 : k0 ≤ T.heap.size) {pc : Nat} {Ls : Array Slot} (hret : meth.sig.returnType = none) (hlk : meth.locks = false)
    (hd : decode c.code pc = .ok (.return_, 1)) (hq : Q none T.heap locs) (hk : cells ≤ K) (hn : slots ≤ N) : own_Go p e below (own_PostW s Q K N) (T.setTop (mkF m pc Ls [])) :=
  own_outW X hS hk0 (fun _ => rfl) hlk (fun fs hr => X.returnOut hx hret hd hr) hq hk hn
end OutW
theorem own_ole {Z : State} {n0 : Nat} {h : Heap} (X : Old Z n0 h) : n0 ≤ h.size := X.1 ▸ X.2.1
theorem own_hk {T : State} {h : Heap} {k0 : Nat} (e : T.heap = h) (q : k0 ≤ h.size) : k0 ≤ T.heap.size := Nat.le_trans q (Nat.le_of_eq (congrArg Array.size e.symm))
theorem own_lat2 {cs : List Int32} (h : ∀ c ∈ cs, ¬ c < 0 ∧ ¬ (255 : Int32) < c) : ∀ c ∈ cs, ¬ (255 : Int32) < c := fun c hc => (h c hc).2
theorem own_nm0 {a : Addr} : a ∉ ([] : List Addr) := List.not_mem_nil
theorem own_nmS {a b : Addr} {L : List Addr} (h : a ≠ b) (r : a ∉ L) : a ∉ b :: L := fun q => (List.mem_cons.mp q).elim h r
theorem own_cat {v : Value} (h : v.isRef = true) : v.category = 1 := by cases v <;> first | rfl | (cases h; done)
theorem own_narR {v : Value} {C : String} (h : v.isRef = true) : narrow (.object C) v = v := by cases v <;> first | rfl | (cases h; done)
theorem own_fitR {v : Value} {C : String} (h : v.isRef = true) : fits (.object C) v = true := by cases v <;> first | rfl | (cases h; done)
theorem own_all0 {P : Int32 → Prop} : ∀ x ∈ ([] : List Int32), P x := fun _ q => nomatch q
theorem own_allS {P : Int32 → Prop} {y : Int32} {L : List Int32} (q : P y) (r : ∀ x ∈ L, P x) : ∀ x ∈ y :: L, P x := fun x z => (List.mem_cons.mp z).elim (fun u => u ▸ q) (r x)
theorem own_i2c_rng (x : Int32) : ¬ x.toUInt32.toUInt16.toUInt32.toInt32 < 0 ∧ ¬ (65535 : Int32) < x.toUInt32.toUInt16.toUInt32.toInt32 := by
  have q := c_i2c x
  have e1 : (65535 : Int32).toInt = 65535 := rfl
  have e0 : (0 : Int32).toInt = 0 := rfl
  simp only [Int32.lt_iff_toInt_lt, e1, e0]
  omega
theorem own_and255 (x : Int32) : ¬ (x &&& (255 : Int32)).toUInt32.toUInt16.toUInt32.toInt32 < 0 ∧ ¬ (255 : Int32) < (x &&& (255 : Int32)).toUInt32.toUInt16.toUInt32.toInt32 := by
  rw [i2c_mask]
  have q := c_and x 255 (by decide)
  have e1 : (255 : Int32).toInt = 255 := rfl
  have e0 : (0 : Int32).toInt = 0 := rfl
  simp only [Int32.lt_iff_toInt_lt, e1, e0] at q ⊢
  omega
theorem own_up {x : Int32} (h : ¬ x < 0 ∧ ¬ (255 : Int32) < x) : ¬ x < 0 ∧ ¬ (65535 : Int32) < x := by
  have e1 : (255 : Int32).toInt = 255 := rfl
  have e2 : (65535 : Int32).toInt = 65535 := rfl
  have e0 : (0 : Int32).toInt = 0 := rfl
  simp only [Int32.lt_iff_toInt_lt, e1, e2, e0] at h ⊢
  omega
theorem own_i2c_id {x : Int32} (h : ¬ x < 0 ∧ ¬ (65535 : Int32) < x) : x.toUInt32.toUInt16.toUInt32.toInt32 = x := by
  have q := c_i2c x
  have e2 : (65535 : Int32).toInt = 65535 := rfl
  have e0 : (0 : Int32).toInt = 0 := rfl
  simp only [Int32.lt_iff_toInt_lt, e2, e0] at h
  apply Int32.toInt_inj.mp
  omega
theorem own_narC {x : Int32} (h : ¬ x < 0 ∧ ¬ (65535 : Int32) < x) : nar .char x = x := own_i2c_id h
theorem own_fitC {x : Int32} (h : ¬ x < 0 ∧ ¬ (65535 : Int32) < x) : fits .char (.int x) = true := by rw [← own_narC h]; exact fits_nar_char x
theorem own_narB {x : Int32} : nar .byte (x.toInt8.toInt32) = x.toInt8.toInt32 := by
  have h : ∀ y : Int8, y.toInt32.toInt8 = y := fun y => by simp
  show (x.toInt8.toInt32).toInt8.toInt32 = _
  rw [h]
theorem own_narZ {x : Int32} (h : x = 0 ∨ x = 1) : nar .boolean x = x := by rcases h with rfl | rfl <;> rfl
end OwnKit

def own_St (Z : State) : Prop := True
section Fl
open Jvm.FP.Core
def own_sh (p : Int) : Datum → Datum
  | .fin s c q => .fin s c (q + p)
  | d => d
theorem own_two {c d K : Nat} {Q r : Int} (h1 : c * 2 ^ Q.toNat = K * 2 ^ (-Q).toNat) (h2 : d * 2 ^ r.toNat = K * 2 ^ (-r).toNat) : c * 2 ^ (Q - r).toNat = d * 2 ^ (r - Q).toNat := by
  have a : c * 2 ^ (Q.toNat + (-r).toNat) = d * 2 ^ (r.toNat + (-Q).toNat) := by
    rw [Nat.pow_add, Nat.pow_add, ← Nat.mul_assoc, ← Nat.mul_assoc, h1, h2, Nat.mul_assoc, Nat.mul_assoc, Nat.mul_comm (2 ^ (-Q).toNat)]
  obtain ⟨m, e1, e2⟩ : ∃ m, Q.toNat + (-r).toNat = (Q - r).toNat + m ∧ r.toNat + (-Q).toNat = (r - Q).toNat + m := ⟨Q.toNat + (-r).toNat - (Q - r).toNat, by omega, by omega⟩
  rw [e1, e2, Nat.pow_add, Nat.pow_add, ← Nat.mul_assoc, ← Nat.mul_assoc] at a
  exact Nat.eq_of_mul_eq_mul_right (Nat.two_pow_pos m) a
theorem own_rs {k p : Int} (hk : k ≠ 0) (hb : k.natAbs ≤ 2 ^ 53) (hp1 : -900 ≤ p) (hp2 : p ≤ 900) {x : Datum} (h : Whole k (own_sh p x)) : Whole k (own_sh p (round b64 x)) := by
  cases x with
  | nan => exact h.elim
  | inf s => exact h.elim
  | fin s c q =>
    have hs : s = decide (k < 0) := whole_sign h hk
    have hr := whole_round good_b64 wide_b64 (i := k) hb (whole_ofInt k)
    have hf : Jvm.FP.Core.fits b64 (round b64 (ofInt k)) := by
      unfold ofInt
      exact roundRatio_fits good_b64 _ _ (by decide) _
    cases hd : round b64 (ofInt k) with
    | nan => rw [hd] at hr; exact hr.elim
    | inf t => rw [hd] at hr; exact hr.elim
    | fin t d r =>
      rw [hd] at hr hf
      have ht : t = decide (k < 0) := whole_sign hr hk
      have n1 : c * 2 ^ (q + p).toNat = k.natAbs * 2 ^ (-(q + p)).toNat := whole_natAbs h
      have n2 : d * 2 ^ r.toNat = k.natAbs * 2 ^ (-r).toNat := whole_natAbs hr
      have kp : 1 ≤ k.natAbs := by omega
      obtain ⟨f1, f2, f3, f4⟩ := hf
      have f1' : d < 9007199254740992 := f1
      have qm : b64.qmin = -1074 := by decide
      have qM : b64.qmax = 971 := by decide
      have tl : b64.tails = 4503599627370496 := by decide
      rw [qm] at f2 f4
      rw [qM] at f3
      rw [tl] at f4
      have lo : -54 < r := by
        rcases Int.lt_or_le (-54) r with z | z
        · exact z
        · exfalso
          have e1 : r.toNat = 0 := by omega
          obtain ⟨j, hj⟩ : ∃ j, (-r).toNat = 54 + j := ⟨(-r).toNat - 54, by omega⟩
          rw [e1, hj, Nat.pow_add] at n2
          have p2 := Nat.two_pow_pos j
          have : 2 ^ 54 ≤ k.natAbs * (2 ^ 54 * 2 ^ j) := by
            calc 2 ^ 54 = 1 * (2 ^ 54 * 1) := by omega
              _ ≤ k.natAbs * (2 ^ 54 * 2 ^ j) := Nat.mul_le_mul kp (Nat.mul_le_mul_left _ p2)
          have e54 : (2 : Nat) ^ 54 = 18014398509481984 := by decide
          rw [← n2] at this
          omega
      have f5 : 4503599627370496 ≤ d := by rcases f4 with z | z <;> omega
      have hi : r < 2 := by
        rcases Int.lt_or_le r 2 with z | z
        · exact z
        · exfalso
          have e1 : (-r).toNat = 0 := by omega
          obtain ⟨j, hj⟩ : ∃ j, r.toNat = 2 + j := ⟨r.toNat - 2, by omega⟩
          rw [e1, hj, Nat.pow_add] at n2
          have p2 := Nat.two_pow_pos j
          have : d * 4 ≤ d * (2 ^ 2 * 2 ^ j) := Nat.mul_le_mul_left _ (by omega)
          have e53 : (2 : Nat) ^ 53 = 9007199254740992 := by decide
          omega
      have hx := roundRatio_exact good_b64 (s := s) (A := c) (B := 1) (c := d) (e := q) (q := r - p) (by decide) ⟨f1, by rw [qm]; omega, by rw [qM]; omega, Or.inr (by rw [tl]; exact f5)⟩ (by
        have := own_two n1 n2
        rw [show q - (r - p) = q + p - r by omega, show r - p - q = r - (q + p) by omega, Nat.mul_one]
        exact this)
      show Whole k (own_sh p (roundRatio b64 s c 1 q))
      rw [hx]
      show Whole k (.fin s d (r - p + p))
      rw [show r - p + p = r by omega, hs, ← ht]
      exact hr
def own_S (k p : Int) (a : UInt64) : Prop := Whole k (own_sh p (val64 a))
theorem own_S.nn {k p : Int} {a : UInt64} (h : own_S k p a) : val64 a ≠ .nan := fun q => by unfold own_S at h; rw [q] at h; exact h.elim
theorem own_S_int {k : Int} {a : UInt64} (h : DInt k a) : own_S k 0 a := by
  unfold own_S
  unfold DInt at h
  cases hd : val64 a with
  | nan => rw [hd] at h; exact h.elim
  | inf t => rw [hd] at h; exact h.elim
  | fin t d r => rw [hd] at h; show Whole k (.fin t d (r + 0)); rw [Int.add_zero]; exact h
theorem own_int_S {k : Int} {a : UInt64} (h : own_S k 0 a) : DInt k a := by
  unfold own_S at h
  unfold DInt
  cases hd : val64 a with
  | nan => rw [hd] at h; exact h.elim
  | inf t => rw [hd] at h; exact h.elim
  | fin t d r => rw [hd] at h; have h' : Whole k (.fin t d (r + 0)) := h; rw [Int.add_zero] at h'; exact h'
theorem own_S_mul {k l p u : Int} {a b : UInt64} (ha : own_S k p a) (hb : own_S l u b) (hk : k * l ≠ 0) (hm : (k * l).natAbs ≤ 2 ^ 53) (h1 : -900 ≤ p + u) (h2 : p + u ≤ 900) : own_S (k * l) (p + u) (dmul a b) := by
  unfold own_S at ha hb ⊢
  rw [val64_dmul]
  refine own_rs hk hm h1 h2 ?_
  cases hx : val64 a with
  | nan => rw [hx] at ha; exact ha.elim
  | inf t => rw [hx] at ha; exact ha.elim
  | fin s c q =>
    cases hy : val64 b with
    | nan => rw [hy] at hb; exact hb.elim
    | inf t => rw [hy] at hb; exact hb.elim
    | fin t d r =>
      rw [hx] at ha
      rw [hy] at hb
      have h := whole_product (x := .fin s c (q + p)) (y := .fin t d (r + u)) ha hb
      have h' : Whole (k * l) (.fin (s != t) (c * d) (q + p + (r + u))) := h
      show Whole (k * l) (.fin (s != t) (c * d) (q + r + (p + u)))
      rw [show q + r + (p + u) = q + p + (r + u) by omega]
      exact h'
theorem own_S_add {k l p : Int} {a b : UInt64} (ha : own_S k p a) (hb : own_S l p b) (hk : k + l ≠ 0) (hm : (k + l).natAbs ≤ 2 ^ 53) (h1 : -900 ≤ p) (h2 : p ≤ 900) : own_S (k + l) p (dadd a b) := by
  unfold own_S at ha hb ⊢
  rw [val64_dadd]
  refine own_rs hk hm h1 h2 ?_
  cases hx : val64 a with
  | nan => rw [hx] at ha; exact ha.elim
  | inf t => rw [hx] at ha; exact ha.elim
  | fin s c q =>
    cases hy : val64 b with
    | nan => rw [hy] at hb; exact hb.elim
    | inf t => rw [hy] at hb; exact hb.elim
    | fin t d r =>
      rw [hx] at ha
      rw [hy] at hb
      have h := whole_sum (x := .fin s c (q + p)) (y := .fin t d (r + p)) ha hb
      have e : min (q + p) (r + p) = min q r + p := by omega
      have e2 : sumUnits s c (q + p) t d (r + p) (min q r + p) = sumUnits s c q t d r (min q r) := by
        unfold sumUnits inUnits
        rw [show q + p - (min q r + p) = q - min q r by omega, show r + p - (min q r + p) = r - min q r by omega]
      have h' : Whole (k + l) (.fin (sumSign s t (sumUnits s c (q + p) t d (r + p) (min (q + p) (r + p)))) (sumUnits s c (q + p) t d (r + p) (min (q + p) (r + p))).natAbs (min (q + p) (r + p))) := h
      rw [e, e2] at h'
      exact h'
/-- division by a power of two -/
theorem own_S_div {k p j : Int} {a b : UInt64} (ha : own_S k p a) (hb : val64 b = .fin false (2 ^ 52) (j - 52)) (hk : k ≠ 0) (hm : k.natAbs ≤ 2 ^ 53) (h1 : -900 ≤ p + j) (h2 : p + j ≤ 900) : own_S k (p + j) (ddiv a b) := by
  unfold own_S at ha ⊢
  rw [val64_ddiv, hb]
  cases hx : val64 a with
  | nan => rw [hx] at ha; exact ha.elim
  | inf t => rw [hx] at ha; exact ha.elim
  | fin s c q =>
    rw [hx] at ha
    have e : quotient b64 (.fin s c q) (.fin false (2 ^ 52) (j - 52)) = round b64 (.fin s c (q - j)) := by
      show (if (2 ^ 52 : Nat) = 0 then (if c = 0 then Datum.nan else Datum.inf (s != false)) else roundRatio b64 (s != false) c (2 ^ 52) (q - (j - 52))) = roundRatio b64 s c 1 (q - j)
      rw [if_neg (by decide), show (s != false) = s by cases s <;> rfl]
      refine roundRatio_congr (by decide) (by decide) ?_
      rw [show q - (j - 52) - (q - j) = 52 by omega, show q - j - (q - (j - 52)) = -52 by omega]
      simp
    rw [e]
    refine own_rs hk hm h1 h2 ?_
    have ha' : Whole k (.fin s c (q + p)) := ha
    show Whole k (.fin s c (q - j + (p + j)))
    rw [show q - j + (p + j) = q + p by omega]
    exact ha'
theorem own_S_pos {k p : Int} {a : UInt64} (ha : own_S k p a) (hk : 0 < k) : dcmp a dconst0 = some .gt := by
  show order (val64 a) (val64 dconst0) = _
  rw [val64_dconst0]
  unfold own_S at ha
  cases hx : val64 a with
  | nan => rw [hx] at ha; exact ha.elim
  | inf t => rw [hx] at ha; exact ha.elim
  | fin s c q =>
    rw [hx] at ha
    have ha' : Whole k (.fin s c (q + p)) := ha
    have hs := whole_sign ha' (by omega)
    have hc : c ≠ 0 := fun z => by have := (whole_zero ha').mp z; omega
    have hs' : s = false := by rw [hs]; exact decide_eq_false (by omega)
    subst hs'
    show some (compare (signed false (inUnits c q (min q b64.qmin))) (signed false (inUnits 0 b64.qmin (min q b64.qmin)))) = _
    have p1 : 0 < inUnits c q (min q b64.qmin) := Nat.mul_pos (by omega) (Nat.two_pow_pos _)
    have p2 : inUnits 0 b64.qmin (min q b64.qmin) = 0 := Nat.zero_mul _
    rw [p2]
    simp only [signed]
    congr 1
    simp only [compare, compareOfLessAndEq]
    rw [if_neg (by simp), if_neg (by simp; omega)]
theorem own_sq {a : UInt64} (h : val64 a ≠ .nan) : dmul (dneg a) (dneg a) = dmul a a := by
  have n1 : val64 (dmul (dneg a) (dneg a)) = val64 (dmul a a) := by
    rw [val64_dmul, val64_dmul, val64_dneg]
    cases hx : val64 a with
    | nan => exact absurd hx h
    | inf t => cases t <;> rfl
    | fin s c q => cases s <;> rfl
  by_cases q : val64 (dmul a a) = .nan
  · exfalso
    rw [val64_dmul] at q
    cases hx : val64 a with
    | nan => exact absurd hx h
    | inf t => rw [hx] at q; cases t <;> exact absurd q (by decide)
    | fin s c r => rw [hx] at q; exact roundRatio_ne_nan _ _ _ _ _ q
  · exact val64_inj (by rw [n1]; exact q) n1
theorem own_F_mul {k l p u w : Int} {a b : UInt64} (ha : own_S k p a) (hb : own_S l u b) (hw : p + u = w) (hk : k * l ≠ 0) (hm : (k * l).natAbs ≤ 2 ^ 53) (h1 : -900 ≤ w) (h2 : w ≤ 900) : own_S (k * l) w (FP.dmul a b) := by subst hw; exact own_S_mul ha hb hk hm h1 h2
theorem own_F_add {k l p : Int} {a b : UInt64} (ha : own_S k p a) (hb : own_S l p b) (hk : k + l ≠ 0) (hm : (k + l).natAbs ≤ 2 ^ 53) (h1 : -900 ≤ p) (h2 : p ≤ 900) : own_S (k + l) p (FP.dadd a b) := own_S_add ha hb hk hm h1 h2
theorem own_F_div {k p j w : Int} {a b : UInt64} (ha : own_S k p a) (hb : val64 b = .fin false (2 ^ 52) (j - 52)) (hw : p + j = w) (hk : k ≠ 0) (hm : k.natAbs ≤ 2 ^ 53) (h1 : -900 ≤ w) (h2 : w ≤ 900) : own_S k w (FP.ddiv a b) := by subst hw; exact own_S_div ha hb hk hm h1 h2
theorem own_F_i2d (n : Int32) : own_S n.toInt 0 (FP.i2d n) := own_S_int (i2d_int n)
theorem own_F_l2d {a : Int64} (h : a.toInt.natAbs ≤ 2 ^ 53) : DInt a.toInt (FP.l2d a) := l2d_int h
theorem own_F_cmp {i j : Int} {a b : UInt64} (ha : DInt i a) (hb : DInt j b) : FP.dcmp a b = some (compare i j) := dcmp_int ha hb
theorem own_F_pos {k p : Int} {a : UInt64} (ha : own_S k p a) (hk : 0 < k) : FP.dcmp a FP.dconst0 = some .gt := own_S_pos ha hk
theorem own_F_self {a : UInt64} (h : val64 a ≠ .nan) : FP.dcmp a a = some .eq := dcmp_self h
theorem own_F_sq {a : UInt64} (h : val64 a ≠ .nan) : FP.dmul (FP.dneg a) (FP.dneg a) = FP.dmul a a := by
  have e : FP.dneg a = dneg a := Jvm.FP.dneg_core (Jvm.Free.Fl.noNaN64_no.mp (Jvm.Free.Fl.val64_no.mpr h))
  rw [e]; exact own_sq h
theorem own_const {k p : Int} {a : UInt64} {c : Nat} {q : Int} (h : val64 a = .fin false c q) (e : signed false (c * 2 ^ (q + p).toNat) = k * ((2 ^ (-(q + p)).toNat : Nat) : Int)) : own_S k p a := by
  unfold own_S
  rw [h]
  exact e
def own_de (x : UInt64) : UInt64 := FP.dmul (FP.dadd (4618441417868443648 : UInt64) (FP.ddiv (FP.dmul x x) (4611686018427387904 : UInt64))) (4368491638549381120 : UInt64)
def own_x (n : Int32) : UInt64 := FP.ddiv (FP.i2d n) (4616189618054758400 : UInt64)
def own_NN (x : UInt64) : Prop := Jvm.Free.Fl.NoNaN64 (FP.dmul x x) ∧ Jvm.Free.Fl.NoNaN64 (FP.ddiv (FP.dmul x x) (4611686018427387904 : UInt64)) ∧ Jvm.Free.Fl.NoNaN64 (FP.dadd (4618441417868443648 : UInt64) (FP.ddiv (FP.dmul x x) (4611686018427387904 : UInt64))) ∧ Jvm.Free.Fl.NoNaN64 (own_de x)
def own_All (n : Int32) : Prop := Jvm.Free.Fl.NoNaN64 (own_x n) ∧ own_NN (own_x n) ∧ own_NN (FP.dneg (own_x n)) ∧ Jvm.Free.Fl.NoNaN64 (FP.dmul (own_de (own_x n)) (4868391197187506176 : UInt64)) ∧ cmpValue (FP.dcmp (FP.dmul (own_de (own_x n)) (4868391197187506176 : UInt64)) (FP.l2d ((192 : Int64) + (n.toInt64 * n.toInt64)))) .l = 0 ∧ cmpValue (FP.dcmp (own_de (FP.dneg (own_x n))) (own_de (own_x n))) .l = 0 ∧ cmpValue (FP.dcmp (own_de (own_x n)) FP.dconst0) .l = 1
theorem own_allZ : own_All 0 := by
  refine ⟨?_, ⟨?_, ?_, ?_, ?_⟩, ⟨?_, ?_, ?_, ?_⟩, ?_, ?_, ?_, ?_⟩ <;> first | (unfold Jvm.Free.Fl.NoNaN64; decide +kernel) | decide +kernel
set_option maxHeartbeats 4000000 in
theorem own_allN {n : Int32} (h : n ≠ 0) (h1 : -1048576 < n.toInt) (h2 : n.toInt < 1048576) : own_All n := by
  have nz : n.toInt ≠ 0 := fun q => h (Int32.toInt_inj.mp q)
  have sq1 : n.toInt * n.toInt ≠ 0 := Int.mul_ne_zero nz nz
  have sq2 : 0 < n.toInt * n.toInt := by rcases Int.lt_or_gt_of_ne nz with q | q; exact Int.mul_pos_of_neg_of_neg q q; exact Int.mul_pos q q
  have ab : n.toInt.natAbs ≤ 1048576 := by omega
  have sq3 : (n.toInt * n.toInt).natAbs ≤ 1099511627776 := by
    rw [Int.natAbs_mul]
    exact Nat.mul_le_mul ab ab
  have e53 : (2 : Nat) ^ 53 = 9007199254740992 := by decide
  have X : own_S n.toInt 2 (own_x n) := own_F_div (j := 2) (b := (4616189618054758400 : UInt64)) (own_F_i2d n) (by decide +kernel) (by decide) nz (by omega) (by decide) (by decide)
  unfold own_All
  generalize own_x n = x at X ⊢
  have XX : own_S (n.toInt * n.toInt) 4 (FP.dmul x x) := own_F_mul X X (by decide) sq1 (by omega) (by decide) (by decide)
  have HF : own_S (n.toInt * n.toInt) 5 (FP.ddiv (FP.dmul x x) (4611686018427387904 : UInt64)) := own_F_div (j := 1) XX (by decide +kernel) (by decide) sq1 (by omega) (by decide) (by decide)
  have SX : own_S 192 5 (4618441417868443648 : UInt64) := own_const (c := 6755399441055744) (q := -50) (by decide +kernel) (by decide)
  have AD : own_S (192 + n.toInt * n.toInt) 5 (FP.dadd (4618441417868443648 : UInt64) (FP.ddiv (FP.dmul x x) (4611686018427387904 : UInt64))) := own_F_add SX HF (by omega) (by omega) (by decide) (by decide)
  have C1 : own_S 1 53 (4368491638549381120 : UInt64) := own_const (c := 4503599627370496) (q := -105) (by decide +kernel) (by decide)
  have DE : own_S (192 + n.toInt * n.toInt) 58 (own_de x) := by
    have := own_F_mul (w := 58) AD C1 (by decide) (by omega) (by omega) (by decide) (by decide)
    rw [Int.mul_one] at this
    exact this
  have C2 : own_S 1 (-58) (4868391197187506176 : UInt64) := own_const (c := 4503599627370496) (q := 6) (by decide +kernel) (by decide)
  have FI : own_S (192 + n.toInt * n.toInt) 0 (FP.dmul (own_de x) (4868391197187506176 : UInt64)) := by
    have := own_F_mul (w := 0) DE C2 (by decide) (by omega) (by omega) (by decide) (by decide)
    rw [Int.mul_one] at this
    exact this
  have nn : ∀ {k p : Int} {a : UInt64}, own_S k p a → Jvm.Free.Fl.NoNaN64 a := fun q => Jvm.Free.Fl.val64_no.mpr q.nn
  have NEG : FP.dmul (FP.dneg x) (FP.dneg x) = FP.dmul x x := own_F_sq X.nn
  have DEN : own_de (FP.dneg x) = own_de x := by unfold own_de; rw [NEG]
  have N1 : own_NN x := ⟨nn XX, nn HF, nn AD, nn DE⟩
  have N2 : own_NN (FP.dneg x) := by
    unfold own_NN
    rw [NEG, DEN]
    exact N1
  have ex : ((192 : Int64) + (n.toInt64 * n.toInt64)).toInt = 192 + n.toInt * n.toInt := by
    have e1 : (192 : Int64).toInt = 192 := rfl
    have m1 : (n.toInt64 * n.toInt64).toInt = n.toInt * n.toInt := by
      rw [Int64.toInt_mul, Int32.toInt_toInt64]
      simp only [Int.bmod]
      omega
    rw [Int64.toInt_add, m1, e1]
    simp only [Int.bmod]
    omega
  have LD : DInt (192 + n.toInt * n.toInt) (FP.l2d ((192 : Int64) + (n.toInt64 * n.toInt64))) := by
    have := own_F_l2d (a := ((192 : Int64) + (n.toInt64 * n.toInt64))) (by rw [ex]; omega)
    rw [ex] at this
    exact this
  refine ⟨nn X, N1, N2, nn FI, ?_, ?_, ?_⟩
  · have q : FP.dcmp (FP.dmul (own_de x) (4868391197187506176 : UInt64)) (FP.l2d ((192 : Int64) + (n.toInt64 * n.toInt64))) = some (compare (192 + n.toInt * n.toInt) (192 + n.toInt * n.toInt)) := own_F_cmp (own_int_S FI) LD
    rw [q]
    simp [compare, compareOfLessAndEq, cmpValue]
  · rw [DEN]
    have q : FP.dcmp (own_de x) (own_de x) = some .eq := own_F_self DE.nn
    rw [q]
    rfl
  · have q : FP.dcmp (own_de x) FP.dconst0 = some .gt := own_F_pos DE (by omega)
    rw [q]
    rfl
theorem own_allA (a : Int32) : own_All (a % (1048576 : Int32)) := by
  have e : (1048576 : Int32).toInt = 1048576 := rfl
  have q := c_irem a 1048576 1048576 rfl
  by_cases h : a % (1048576 : Int32) = 0
  · rw [h]; exact own_allZ
  · refine own_allN h ?_ ?_ <;> rcases Int.lt_or_le a.toInt 0 with z | z
    · rw [q.2 z]; omega
    · rw [q.1 z]; omega
    · rw [q.2 z]; omega
    · rw [q.1 z]; omega
end Fl

theorem own_pn0 : plainName "com/example/capstrike/capstrike/StandardNormal" = true := by first | (simp [plainName, overriddenIn]; done) | decide +kernel
theorem own_d_prog_71_m4_0 : decode prog_71_method_4_code 0 = .ok (.ldc2_w 39, 3) := by decide +kernel
theorem own_d_prog_71_m4_3 : decode prog_71_method_4_code 3 = .ok (.dload_n 0, 1) := by decide +kernel
theorem own_d_prog_71_m4_4 : decode prog_71_method_4_code 4 = .ok (.dload_n 0, 1) := by decide +kernel
theorem own_d_prog_71_m4_5 : decode prog_71_method_4_code 5 = .ok (.dmul, 1) := by decide +kernel
theorem own_d_prog_71_m4_6 : decode prog_71_method_4_code 6 = .ok (.ldc2_w 34, 3) := by decide +kernel
theorem own_d_prog_71_m4_9 : decode prog_71_method_4_code 9 = .ok (.ddiv, 1) := by decide +kernel
theorem own_d_prog_71_m4_10 : decode prog_71_method_4_code 10 = .ok (.dadd, 1) := by decide +kernel
theorem own_d_prog_71_m4_11 : decode prog_71_method_4_code 11 = .ok (.ldc2_w 41, 3) := by decide +kernel
theorem own_d_prog_71_m4_14 : decode prog_71_method_4_code 14 = .ok (.dmul, 1) := by decide +kernel
theorem own_d_prog_71_m4_15 : decode prog_71_method_4_code 15 = .ok (.dreturn, 1) := by decide +kernel
theorem own_pn1 : plainName "com/example/capstrike/capstrike/StandardNormalDensityErrorPinLaw" = true := by first | (simp [plainName, overriddenIn]; done) | decide +kernel
theorem own_pd0 : parseMethodDescriptor "(D)D" = some ⟨[.double], some .double⟩ := by decide +kernel
def own_Qde (Z : State) (xd : UInt64) (h0 : Heap) (n0 : Nat) (v : Option Value) (h : Heap) (L : List Loc) : Prop := (v = some (.double (own_de xd)) ∧ Fr n0 L ∧ Keep h0 h [])
theorem own_ef_de (m : MethodId) (xd : UInt64)  : entryFrame m #[(.double xd)] 2 = mkF m 0 #[.val (.double xd), .second] [] := by first | (simp [entryFrame, mkF, argsToLocals, Value.category]; done) | rfl
set_option maxRecDepth 65536 in
set_option maxHeartbeats 40000000 in
theorem own_rmde (l : Launch) (Z : State) (a0 : Array Value) (hw : ∀ d ∈ tables_1, d.before a0 Z = true) (hst : own_St Z) (ws : List Jvm.Cond) (xd : UInt64) (h0 : Heap) (n0 : Nat) (X00 : Old Z n0 h0) (hN : own_NN xd) :
    MetFree l (⟨"com/example/capstrike/capstrike/StandardNormal", "densityError", "(D)D"⟩ : MethodName) (head1 (Jvm.Cond.code (⟨"com/example/capstrike/capstrike/StandardNormal", "densityError", "(D)D"⟩ : MethodName) prog_71_method_4_code 2 (Option.some Jvm.ClassFile.FieldType.double) :: ws) ({ frames := 0, cells := 0, slots := 0, locals := 0 } : Room)) (fun a U => a = #[(.double xd)] ∧ Z.Warmed39 U.vm ∧ U.heap = h0) (fun _ _ _ _ _ => True) (fun _ U o U' => ∃ v L, o = .returned v ∧ own_Qde Z xd h0 n0 v U'.heap L ∧ FrameEnd U o U' L ({ frames := 0, cells := 0, slots := 0, locals := 0 } : Room).cells ({ frames := 0, cells := 0, slots := 0, locals := 0 } : Room).slots) := by
  refine MetFree.of_bodySF (plainFor_of_name own_pn0) hisR ?_
  intro p e s m args below meth c s₁ Bd hml0 hP hK
  obtain ⟨rfl, hZ, hh⟩ := hP
  have hx := Bd.exec
  have hby := Bd.bytes
  have hret := Bd.returns
  have hlk : meth.locks = false := BodyLoose.notSynchronized Bd
  have hml : c.maxLocals = 2 := hml0
  have hown : s.vm.findClass "com/example/capstrike/capstrike/StandardNormal" = some m.cls := findClass_of_methodNamed Bd.named
  have hnm := (name_of_methodNamed Bd.named Bd.method).1
  have X0 : Stand p l e ({ frames := 0, cells := 0, slots := 0, locals := 0 } : Room) s m #[(.double xd)] below meth c s₁ [] 0 0 := Stand.of_body Bd
  have e0 : s₁.heap = h0 := by rw [← hh, Bd.state]; rfl
  have N0 := Fr.nil n0
  have KK0 : Keep h0 h0 [] := Keep.refl h0 _
  refine own_start (own_Qde Z xd h0 n0) ?_
  refine own_to (V := s₁.setTop (mkF m 0 #[.val (.double xd), .second] [])) ?_ (fun t k => castTop (own_ef_de m xd ) k)
  obtain _u := id hst
  refine own_to (V := s₁.setTop (mkF m 3 #[.val (.double xd), .second] [(.double (4618441417868443648 : UInt64))])) ?_ (fun t k => X0.ldc2DoubleC hx hown (mvT hZ (hw _ (List.mem_of_getElem? (i := 6) rfl))) (g := (mkF m 0 #[.val (.double xd), .second] [])) rfl (hb hby own_d_prog_71_m4_0) t k)
  refine own_to (V := s₁.setTop (mkF m 6 #[.val (.double xd), .second] [(.double (FP.dmul xd xd)), (.double (4618441417868443648 : UInt64))])) ?_ fun t k => (by
    refine XS.dloadN X0.here hx rfl (hb hby own_d_prog_71_m4_3) rfl ?_
    refine XS.dloadN X0.here hx rfl (hb hby own_d_prog_71_m4_4) rfl ?_
    refine XS.dmulS X0.here hx rfl (hb hby own_d_prog_71_m4_5) rfl hN.1 rfl ?_
    exact k)
  refine own_to (V := s₁.setTop (mkF m 9 #[.val (.double xd), .second] [(.double (4611686018427387904 : UInt64)), (.double (FP.dmul xd xd)), (.double (4618441417868443648 : UInt64))])) ?_ (fun t k => X0.ldc2DoubleC hx hown (mvT hZ (hw _ (List.mem_of_getElem? (i := 7) rfl))) (g := (mkF m 6 #[.val (.double xd), .second] [(.double (FP.dmul xd xd)), (.double (4618441417868443648 : UInt64))])) rfl (hb hby own_d_prog_71_m4_6) t k)
  refine own_to (V := s₁.setTop (mkF m 11 #[.val (.double xd), .second] [(.double (FP.dadd (4618441417868443648 : UInt64) (FP.ddiv (FP.dmul xd xd) (4611686018427387904 : UInt64))))])) ?_ fun t k => (by
    refine XS.ddivS X0.here hx rfl (hb hby own_d_prog_71_m4_9) rfl hN.2.1 rfl ?_
    refine XS.daddS X0.here hx rfl (hb hby own_d_prog_71_m4_10) rfl hN.2.2.1 rfl ?_
    exact k)
  refine own_to (V := s₁.setTop (mkF m 14 #[.val (.double xd), .second] [(.double (4368491638549381120 : UInt64)), (.double (FP.dadd (4618441417868443648 : UInt64) (FP.ddiv (FP.dmul xd xd) (4611686018427387904 : UInt64))))])) ?_ (fun t k => X0.ldc2DoubleC hx hown (mvT hZ (hw _ (List.mem_of_getElem? (i := 8) rfl))) (g := (mkF m 11 #[.val (.double xd), .second] [(.double (FP.dadd (4618441417868443648 : UInt64) (FP.ddiv (FP.dmul xd xd) (4611686018427387904 : UInt64))))])) rfl (hb hby own_d_prog_71_m4_11) t k)
  refine own_to (V := s₁.setTop (mkF m 15 #[.val (.double xd), .second] [(.double (FP.dmul (FP.dadd (4618441417868443648 : UInt64) (FP.ddiv (FP.dmul xd xd) (4611686018427387904 : UInt64))) (4368491638549381120 : UInt64)))])) ?_ fun t k => (by
    refine XS.dmulS X0.here hx rfl (hb hby own_d_prog_71_m4_14) rfl hN.2.2.2 rfl ?_
    exact k)
  exact own_retD X0 hx hret hlk (hb hby own_d_prog_71_m4_15) (by rw [e0]; exact (⟨rfl, N0, KK0⟩)) (by decide) (by decide)
def own_Qlaw (Z : State) (p0 : Int32) (h0 : Heap) (n0 : Nat) (v : Option Value) (h : Heap) (L : List Loc) : Prop := (v = some (.int (1 : Int32)) ∧ Fr n0 L ∧ Keep h0 h [])
theorem own_ef_law (m : MethodId) (p0 : Int32)  : entryFrame m #[(.int p0)] maxLocals = mkF m 0 #[.val (.int p0), .unset, .unset, .unset, .unset, .unset, .unset, .unset, .unset, .unset] [] := by first | (simp [entryFrame, mkF, argsToLocals, Value.category, maxLocals]; done) | rfl
set_option maxRecDepth 65536 in
set_option maxHeartbeats 40000000 in
theorem own_rmlaw (l : Launch) (Z : State) (a0 : Array Value) (hw : ∀ d ∈ tables_1, d.before a0 Z = true) (hst : own_St Z) (ws : List Jvm.Cond) (p0 : Int32) (h0 : Heap) (n0 : Nat) (X00 : Old Z n0 h0)  :
    MetFree l x (head1 (Jvm.Cond.code x code maxLocals ret :: ws) room_1) (fun a U => a = #[(.int p0)] ∧ Z.Warmed39 U.vm ∧ U.heap = h0) (fun _ _ _ _ _ => True) (fun _ U o U' => ∃ v L, o = .returned v ∧ own_Qlaw Z p0 h0 n0 v U'.heap L ∧ FrameEnd U o U' L room_1.cells room_1.slots) := by
  refine MetFree.of_bodySF (plainFor_of_name own_pn1) hisR ?_
  intro p e s m args below meth c s₁ Bd hml0 hP hK
  obtain ⟨rfl, hZ, hh⟩ := hP
  have hx := Bd.exec
  have hby := Bd.bytes
  have hret := Bd.returns
  have hlk : meth.locks = false := BodyLoose.notSynchronized Bd
  have hml : c.maxLocals = 10 := hml0
  have hown : s.vm.findClass "com/example/capstrike/capstrike/StandardNormalDensityErrorPinLaw" = some m.cls := findClass_of_methodNamed Bd.named
  have hnm := (name_of_methodNamed Bd.named Bd.method).1
  have X0 : Stand p l e room_1 s m #[(.int p0)] below meth c s₁ [] 0 0 := Stand.of_body Bd
  have e0 : s₁.heap = h0 := by rw [← hh, Bd.state]; rfl
  have N0 := Fr.nil n0
  have KK0 : Keep h0 h0 [] := Keep.refl h0 _
  refine own_start (own_Qlaw Z p0 h0 n0) ?_
  refine own_to (V := s₁.setTop (mkF m 0 #[.val (.int p0), .unset, .unset, .unset, .unset, .unset, .unset, .unset, .unset, .unset] [])) ?_ (fun t k => castTop (own_ef_law m p0 ) k)
  obtain _u := id hst
  refine own_to (V := s₁.setTop (mkF m 1 #[.val (.int p0), .unset, .unset, .unset, .unset, .unset, .unset, .unset, .unset, .unset] [(.int p0)])) ?_ fun t k => (by
    refine XS.iloadN X0.here hx rfl (hb hby at_0) rfl ?_
    exact k)
  refine own_to (V := s₁.setTop (mkF m 3 #[.val (.int p0), .unset, .unset, .unset, .unset, .unset, .unset, .unset, .unset, .unset] [(.int (1048576 : Int32)), (.int p0)])) ?_ (fun t k => X0.ldcInt hx hown (mvT hZ (hw _ (List.mem_of_getElem? (i := 0) rfl))) (g := (mkF m 1 #[.val (.int p0), .unset, .unset, .unset, .unset, .unset, .unset, .unset, .unset, .unset] [(.int p0)])) rfl (hb hby at_1) t k)
  obtain ⟨x101, hx101⟩ : ∃ z : Int32, z = (p0 % (1048576 : Int32)) := ⟨_, rfl⟩
  refine own_to (V := s₁.setTop (mkF m 5 #[.val (.int p0), .val (.int x101), .unset, .unset, .unset, .unset, .unset, .unset, .unset, .unset] [])) ?_ fun t k => (by
    first | rw [hx101] at k | skip
    refine own_irem X0.here hx rfl (hb hby at_3) rfl (by decide) ?_
    refine XS.istoreN X0.here hx rfl (hb hby at_4) rfl (l' := #[.val (.int p0), .val (.int (p0 % (1048576 : Int32))), .unset, .unset, .unset, .unset, .unset, .unset, .unset, .unset]) rfl ?_
    exact k)
  have hA : own_All x101 := by rw [hx101]; exact own_allA _
  obtain ⟨a1, a2, a3, a4, a5, a6, a7⟩ := id hA
  refine own_to (V := s₁.setTop (mkF m 7 #[.val (.int p0), .val (.int x101), .unset, .unset, .unset, .unset, .unset, .unset, .unset, .unset] [(.double (FP.i2d x101))])) ?_ fun t k => (by
    refine XS.iloadN X0.here hx rfl (hb hby at_5) rfl ?_
    refine XS.i2dS X0.here hx rfl (hb hby at_6) rfl rfl ?_
    exact k)
  refine own_to (V := s₁.setTop (mkF m 10 #[.val (.int p0), .val (.int x101), .unset, .unset, .unset, .unset, .unset, .unset, .unset, .unset] [(.double (4616189618054758400 : UInt64)), (.double (FP.i2d x101))])) ?_ (fun t k => X0.ldc2DoubleC hx hown (mvT hZ (hw _ (List.mem_of_getElem? (i := 1) rfl))) (g := (mkF m 7 #[.val (.int p0), .val (.int x101), .unset, .unset, .unset, .unset, .unset, .unset, .unset, .unset] [(.double (FP.i2d x101))])) rfl (hb hby at_7) t k)
  refine own_to (V := s₁.setTop (mkF m 13 #[.val (.int p0), .val (.int x101), .val (.double (FP.ddiv (FP.i2d x101) (4616189618054758400 : UInt64))), .second, .unset, .unset, .unset, .unset, .unset, .unset] [(.double (FP.ddiv (FP.i2d x101) (4616189618054758400 : UInt64)))])) ?_ fun t k => (by
    refine XS.ddivS X0.here hx rfl (hb hby at_10) rfl a1 rfl ?_
    refine XS.dstoreN X0.here hx rfl (hb hby at_11) rfl (l' := #[.val (.int p0), .val (.int x101), .val (.double (FP.ddiv (FP.i2d x101) (4616189618054758400 : UInt64))), .second, .unset, .unset, .unset, .unset, .unset, .unset]) rfl ?_
    refine XS.dloadN X0.here hx rfl (hb hby at_12) rfl ?_
    exact k)
  obtain ⟨_, _, ⟨T102, L102, k102, n102⟩, -, X102, ⟨Lc102, hQ102, l102, y102, z102⟩, st102⟩ := Jvm.LawKit.callS X0 hx (y := (⟨"com/example/capstrike/capstrike/StandardNormal", "densityError", "(D)D"⟩ : MethodName)) hown (mvT hZ (hw _ (List.mem_of_getElem? (i := 2) rfl))) (mvT hZ (hw _ (List.mem_of_getElem? (i := 3) rfl))) (mvT hZ (hw _ (List.mem_of_getElem? (i := 4) rfl))) (mvT hZ (hw _ (List.mem_of_getElem? (i := 5) rfl))) (by decide) (backOf (W := 0) (own_rmde l Z a0 hw hst [] (FP.ddiv (FP.i2d x101) (4616189618054758400 : UInt64)) h0 n0 X00 a2) hZ (hw _ (List.mem_of_getElem? (i := 5) rfl)) (hw _ (List.mem_of_getElem? (i := 4) rfl)) (by decide) (by decide)) (g := (mkF m 13 #[.val (.int p0), .val (.int x101), .val (.double (FP.ddiv (FP.i2d x101) (4616189618054758400 : UInt64))), .second, .unset, .unset, .unset, .unset, .unset, .unset] [(.double (FP.ddiv (FP.i2d x101) (4616189618054758400 : UInt64)))])) rfl (by rw [hml]; rfl) (argsL := [(.double (FP.ddiv (FP.i2d x101) (4616189618054758400 : UInt64)))]) (rest := []) (lenOf own_pd0 rfl) rfl (by show 2 * 0 + _ ≤ _; exact Nat.le_of_eq rfl) (hb hby at_13) (fun _ _ => ⟨rfl, e0, (by decide : 0 + 0 ≤ _), (by decide : 0 + 0 ≤ _)⟩)
  dsimp only [Pt.U, Pt.locs, Pt.cells, Pt.slots] at X102 l102 y102 z102 st102 hQ102
  subst l102 y102 z102
  obtain ⟨hv102, N102q, K102⟩ := hQ102
  subst hv102
  obtain ⟨h102, e102⟩ : ∃ z, T102.heap = z := ⟨_, rfl⟩
  rw [e102] at K102
  have Xo102 : Old Z n0 h102 := X00.keep K102 all0
  have KK102 : Keep h0 h102 [] := KK0.trans K102 all0
  have N102 := Fr.app N0 N102q
  refine own_to (V := T102.setTop (mkF m 16 #[.val (.int p0), .val (.int x101), .val (.double (FP.ddiv (FP.i2d x101) (4616189618054758400 : UInt64))), .second, .unset, .unset, .unset, .unset, .unset, .unset] [(.double (own_de (FP.ddiv (FP.i2d x101) (4616189618054758400 : UInt64))))])) ?_ st102
  refine own_to (V := T102.setTop (mkF m 20 #[.val (.int p0), .val (.int x101), .val (.double (FP.ddiv (FP.i2d x101) (4616189618054758400 : UInt64))), .second, .val (.double (own_de (FP.ddiv (FP.i2d x101) (4616189618054758400 : UInt64)))), .second, .unset, .unset, .unset, .unset] [(.double (FP.dneg (FP.ddiv (FP.i2d x101) (4616189618054758400 : UInt64))))])) ?_ fun t k => (by
    refine XS.dstore X102.here hx rfl (hb hby at_16) rfl (l' := #[.val (.int p0), .val (.int x101), .val (.double (FP.ddiv (FP.i2d x101) (4616189618054758400 : UInt64))), .second, .val (.double (own_de (FP.ddiv (FP.i2d x101) (4616189618054758400 : UInt64)))), .second, .unset, .unset, .unset, .unset]) rfl ?_
    refine XS.dloadN X102.here hx rfl (hb hby at_18) rfl ?_
    refine XS.dnegS X102.here hx rfl (hb hby at_19) rfl rfl ?_
    exact k)
  obtain ⟨_, _, ⟨T103, L103, k103, n103⟩, -, X103, ⟨Lc103, hQ103, l103, y103, z103⟩, st103⟩ := Jvm.LawKit.callS X102 hx (y := (⟨"com/example/capstrike/capstrike/StandardNormal", "densityError", "(D)D"⟩ : MethodName)) hown (mvT hZ (hw _ (List.mem_of_getElem? (i := 2) rfl))) (mvT hZ (hw _ (List.mem_of_getElem? (i := 3) rfl))) (mvT hZ (hw _ (List.mem_of_getElem? (i := 4) rfl))) (mvT hZ (hw _ (List.mem_of_getElem? (i := 5) rfl))) (by decide) (backOf (W := 0) (own_rmde l Z a0 hw hst [] (FP.dneg (FP.ddiv (FP.i2d x101) (4616189618054758400 : UInt64))) h102 n0 Xo102 a3) hZ (hw _ (List.mem_of_getElem? (i := 5) rfl)) (hw _ (List.mem_of_getElem? (i := 4) rfl)) (by decide) (by decide)) (g := (mkF m 20 #[.val (.int p0), .val (.int x101), .val (.double (FP.ddiv (FP.i2d x101) (4616189618054758400 : UInt64))), .second, .val (.double (own_de (FP.ddiv (FP.i2d x101) (4616189618054758400 : UInt64)))), .second, .unset, .unset, .unset, .unset] [(.double (FP.dneg (FP.ddiv (FP.i2d x101) (4616189618054758400 : UInt64))))])) rfl (by rw [hml]; rfl) (argsL := [(.double (FP.dneg (FP.ddiv (FP.i2d x101) (4616189618054758400 : UInt64))))]) (rest := []) (lenOf own_pd0 rfl) rfl (by show 2 * 0 + _ ≤ _; exact Nat.le_of_eq rfl) (hb hby at_20) (fun _ _ => ⟨rfl, e102, (by decide : 0 + 0 ≤ _), (by decide : 0 + 0 ≤ _)⟩)
  dsimp only [Pt.U, Pt.locs, Pt.cells, Pt.slots] at X103 l103 y103 z103 st103 hQ103
  subst l103 y103 z103
  obtain ⟨hv103, N103q, K103⟩ := hQ103
  subst hv103
  obtain ⟨h103, e103⟩ : ∃ z, T103.heap = z := ⟨_, rfl⟩
  rw [e103] at K103
  have Xo103 : Old Z n0 h103 := Xo102.keep K103 all0
  have KK103 : Keep h0 h103 [] := KK102.trans K103 all0
  have N103 := Fr.app N102 N103q
  refine own_to (V := T103.setTop (mkF m 23 #[.val (.int p0), .val (.int x101), .val (.double (FP.ddiv (FP.i2d x101) (4616189618054758400 : UInt64))), .second, .val (.double (own_de (FP.ddiv (FP.i2d x101) (4616189618054758400 : UInt64)))), .second, .unset, .unset, .unset, .unset] [(.double (own_de (FP.dneg (FP.ddiv (FP.i2d x101) (4616189618054758400 : UInt64)))))])) ?_ st103
  refine own_to (V := T103.setTop (mkF m 25 #[.val (.int p0), .val (.int x101), .val (.double (FP.ddiv (FP.i2d x101) (4616189618054758400 : UInt64))), .second, .val (.double (own_de (FP.ddiv (FP.i2d x101) (4616189618054758400 : UInt64)))), .second, .val (.double (own_de (FP.dneg (FP.ddiv (FP.i2d x101) (4616189618054758400 : UInt64))))), .second, .unset, .unset] [])) ?_ fun t k => (by
    refine XS.dstore X103.here hx rfl (hb hby at_23) rfl (l' := #[.val (.int p0), .val (.int x101), .val (.double (FP.ddiv (FP.i2d x101) (4616189618054758400 : UInt64))), .second, .val (.double (own_de (FP.ddiv (FP.i2d x101) (4616189618054758400 : UInt64)))), .second, .val (.double (own_de (FP.dneg (FP.ddiv (FP.i2d x101) (4616189618054758400 : UInt64))))), .second, .unset, .unset]) rfl ?_
    exact k)
  refine own_to (V := T103.setTop (mkF m 28 #[.val (.int p0), .val (.int x101), .val (.double (FP.ddiv (FP.i2d x101) (4616189618054758400 : UInt64))), .second, .val (.double (own_de (FP.ddiv (FP.i2d x101) (4616189618054758400 : UInt64)))), .second, .val (.double (own_de (FP.dneg (FP.ddiv (FP.i2d x101) (4616189618054758400 : UInt64))))), .second, .unset, .unset] [(.long (192 : Int64))])) ?_ (fun t k => X103.ldc2Long hx hown (mvT hZ (hw _ (List.mem_of_getElem? (i := 9) rfl))) (g := (mkF m 25 #[.val (.int p0), .val (.int x101), .val (.double (FP.ddiv (FP.i2d x101) (4616189618054758400 : UInt64))), .second, .val (.double (own_de (FP.ddiv (FP.i2d x101) (4616189618054758400 : UInt64)))), .second, .val (.double (own_de (FP.dneg (FP.ddiv (FP.i2d x101) (4616189618054758400 : UInt64))))), .second, .unset, .unset] [])) rfl (hb hby at_25) t k)
  obtain ⟨x104, hx104⟩ : ∃ z : Int64, z = ((192 : Int64) + ((x101.toInt64) * (x101.toInt64))) := ⟨_, rfl⟩
  refine own_to (V := T103.setTop (mkF m 36 #[.val (.int p0), .val (.int x101), .val (.double (FP.ddiv (FP.i2d x101) (4616189618054758400 : UInt64))), .second, .val (.double (own_de (FP.ddiv (FP.i2d x101) (4616189618054758400 : UInt64)))), .second, .val (.double (own_de (FP.dneg (FP.ddiv (FP.i2d x101) (4616189618054758400 : UInt64))))), .second, .val (.long x104), .second] [])) ?_ fun t k => (by
    first | rw [hx104] at k | skip
    refine XS.iloadN X103.here hx rfl (hb hby at_28) rfl ?_
    refine XS.i2l X103.here hx rfl (hb hby at_29) rfl ?_
    refine XS.iloadN X103.here hx rfl (hb hby at_30) rfl ?_
    refine XS.i2l X103.here hx rfl (hb hby at_31) rfl ?_
    refine XS.lmul X103.here hx rfl (hb hby at_32) rfl ?_
    refine XS.ladd X103.here hx rfl (hb hby at_33) rfl ?_
    refine XS.lstore X103.here hx rfl (hb hby at_34) rfl (l' := #[.val (.int p0), .val (.int x101), .val (.double (FP.ddiv (FP.i2d x101) (4616189618054758400 : UInt64))), .second, .val (.double (own_de (FP.ddiv (FP.i2d x101) (4616189618054758400 : UInt64)))), .second, .val (.double (own_de (FP.dneg (FP.ddiv (FP.i2d x101) (4616189618054758400 : UInt64))))), .second, .val (.long ((192 : Int64) + ((x101.toInt64) * (x101.toInt64)))), .second]) rfl ?_
    exact k)
  refine own_to (V := T103.setTop (mkF m 38 #[.val (.int p0), .val (.int x101), .val (.double (FP.ddiv (FP.i2d x101) (4616189618054758400 : UInt64))), .second, .val (.double (own_de (FP.ddiv (FP.i2d x101) (4616189618054758400 : UInt64)))), .second, .val (.double (own_de (FP.dneg (FP.ddiv (FP.i2d x101) (4616189618054758400 : UInt64))))), .second, .val (.long x104), .second] [(.double (own_de (FP.ddiv (FP.i2d x101) (4616189618054758400 : UInt64))))])) ?_ fun t k => (by
    refine XS.dload X103.here hx rfl (hb hby at_36) rfl ?_
    exact k)
  refine own_to (V := T103.setTop (mkF m 41 #[.val (.int p0), .val (.int x101), .val (.double (FP.ddiv (FP.i2d x101) (4616189618054758400 : UInt64))), .second, .val (.double (own_de (FP.ddiv (FP.i2d x101) (4616189618054758400 : UInt64)))), .second, .val (.double (own_de (FP.dneg (FP.ddiv (FP.i2d x101) (4616189618054758400 : UInt64))))), .second, .val (.long x104), .second] [(.double (4868391197187506176 : UInt64)), (.double (own_de (FP.ddiv (FP.i2d x101) (4616189618054758400 : UInt64))))])) ?_ (fun t k => X103.ldc2DoubleC hx hown (mvT hZ (hw _ (List.mem_of_getElem? (i := 10) rfl))) (g := (mkF m 38 #[.val (.int p0), .val (.int x101), .val (.double (FP.ddiv (FP.i2d x101) (4616189618054758400 : UInt64))), .second, .val (.double (own_de (FP.ddiv (FP.i2d x101) (4616189618054758400 : UInt64)))), .second, .val (.double (own_de (FP.dneg (FP.ddiv (FP.i2d x101) (4616189618054758400 : UInt64))))), .second, .val (.long x104), .second] [(.double (own_de (FP.ddiv (FP.i2d x101) (4616189618054758400 : UInt64))))])) rfl (hb hby at_38) t k)
  refine own_to (V := T103.setTop (mkF m 69 #[.val (.int p0), .val (.int x101), .val (.double (FP.ddiv (FP.i2d x101) (4616189618054758400 : UInt64))), .second, .val (.double (own_de (FP.ddiv (FP.i2d x101) (4616189618054758400 : UInt64)))), .second, .val (.double (own_de (FP.dneg (FP.ddiv (FP.i2d x101) (4616189618054758400 : UInt64))))), .second, .val (.long x104), .second] [(.int (1 : Int32))])) ?_ fun t k => (by
    refine XS.dmulS X103.here hx rfl (hb hby at_41) rfl a4 rfl ?_
    refine XS.lload X103.here hx rfl (hb hby at_42) rfl ?_
    refine XS.l2dS X103.here hx rfl (hb hby at_44) rfl rfl ?_
    refine XS.dcmpS X103.here hx rfl (hb hby at_45) rfl rfl ?_
    refine XS.ifNo X103.here hx rfl (hb hby at_46) rfl ((if0 _ _).trans (teq ((by rw [hx104]; exact a5) : (cmpValue (FP.dcmp (FP.dmul (own_de (FP.ddiv (FP.i2d x101) (4616189618054758400 : UInt64))) (4868391197187506176 : UInt64)) (FP.l2d x104)) .l) = (0 : Int32))).2) ?_
    refine XS.dload X103.here hx rfl (hb hby at_49) rfl ?_
    refine XS.dload X103.here hx rfl (hb hby at_51) rfl ?_
    refine XS.dcmpS X103.here hx rfl (hb hby at_53) rfl rfl ?_
    refine XS.ifNo X103.here hx rfl (hb hby at_54) rfl ((if0 _ _).trans (teq (a6 : (cmpValue (FP.dcmp (own_de (FP.dneg (FP.ddiv (FP.i2d x101) (4616189618054758400 : UInt64)))) (own_de (FP.ddiv (FP.i2d x101) (4616189618054758400 : UInt64)))) .l) = (0 : Int32))).2) ?_
    refine XS.dload X103.here hx rfl (hb hby at_57) rfl ?_
    refine XS.dconst0 X103.here hx rfl (hb hby at_59) rfl ?_
    refine XS.dcmpS X103.here hx rfl (hb hby at_60) rfl rfl ?_
    refine XS.ifNo X103.here hx rfl (hb hby at_61) rfl ((if0 _ _).trans (tlt ((by have q := a7; unfold own_x at q; rw [q]; decide) : (0 : Int32) < (cmpValue (FP.dcmp (own_de (FP.ddiv (FP.i2d x101) (4616189618054758400 : UInt64))) FP.dconst0) .l))).2.2.2) ?_
    refine XS.iconst X103.here hx rfl (hb hby at_64) ?_
    refine XS.goto X103.here hx rfl (pc0 := 65) (pc' := 69) rfl (hb hby at_65) (by decide) (by decide) ?_
    exact k)
  exact own_retN X103 hx (t := .boolean) (w := (1 : Int32)) hret (by decide) rfl hlk (hb hby at_69) (by rw [e103]; exact (⟨rfl, N103, KK103⟩)) (by decide) (by decide)
set_option maxRecDepth 65536 in
set_option maxHeartbeats 40000000 in
theorem comes_1 {Post : Tables → Env → Array Value → State → Outcome → State → Prop} (hpost : ∀ tb e args s v u, (limb_1_1.after args s (.returned v) u = true ∧ limb_1_2.after args s (.returned v) u = true ∧ True) → FrameEnd s (.returned v) u (Jvm.fieldLocs frame_1_writes args s ++ Jvm.arrayLocs frame_1_arrays args s ++ Jvm.staticLocs frame_1_statics s) 0 0 → Post tb e args s (.returned v) u) :
    ArmFor flags0 classFile x code maxLocals ret World_1 tables_1 room_1 Calls_1 rest_1 Pre_1 Post := by
  intro l hfl _ _ p e ha hc hk s m args below hf hA hF happ hP
  obtain ⟨hcalls, hrest, hpre⟩ := hP
  obtain ⟨-, -, -, hnamed, -, -, -, hat⟩ := (Spec.applies_iff hf).mp happ
  obtain ⟨hg, hn⟩ := and_e (Cond.before_iff.mp (show (Jvm.Cond.and given_1 narrow_1).before args s = true from hpre))
  obtain ⟨hcnt, gr0⟩ := and_e hg
  have ga0 := gr0
  obtain ⟨w0, rfl⟩ : ∃ w0 : Value, args = #[w0] := by
    have hs : args.size = 1 := by simpa [Cond.value, given_1] using hcnt
    obtain ⟨L⟩ := args
    match L, hs with
    | [w0], _ => exact ⟨w0, rfl⟩
  have hw := fun d (hd : d ∈ tables_1) => atoms_spec (ws := Jvm.Cond.code x code maxLocals ret :: tables_1) hat d (List.mem_cons_of_mem _ hd)
  have hfit : Fit s := fun {y c} hc i hi => by
    obtain ⟨ha, rfl⟩ := Array.getElem?_eq_some_iff.mp hc
    have q := List.all_eq_true.mp ((Array.all_eq_true_iff_forall_mem.mp hF) _ (Array.getElem_mem ha)) i (List.mem_range.mpr hi)
    simpa [Array.getElem?_eq_getElem hi] using q
  obtain ⟨i0, ei0⟩ := is_v ga0
  obtain rfl : w0 = (.int i0) := Option.some.inj ei0
  have hst : own_St s := trivial
  obtain ⟨n, o, h1, h2, h3, _, L, rfl, ⟨rfl, N, -⟩, hq⟩ := own_rmlaw l s _ hw hst tables_1 i0 s.heap s.heap.size (Old.start s)  p e ha hc hk s m _ below hf ((Spec.applies_iff_loose hf).mp happ).1 ⟨rfl, State.Warmed39.refl s, rfl⟩ trivial
  refine ⟨n, _, h1, h2, h3, hpost _ _ _ _ _ _ ⟨Cond.after_iff.mpr rfl, Cond.after_iff.mpr (eq_i res_at (Term.int_eval (1)) rfl), trivial⟩ ⟨hq.1, hq.2.1, (hq.2.2.sift fun y hy => Or.inr (N y hy)).mono (by decide) (by decide)⟩⟩
theorem main_1_1 : Claimed_1_1 := comes_1 fun _ _ _ _ _ _ h hF => ⟨h.1, hF⟩
theorem main_1_2 : Claimed_1_2 := comes_1 fun _ _ _ _ _ _ h hF => ⟨h.2.1, hF⟩
end Jvm.Pilot.@@N@@
namespace Jvm.Pilot.@@N@@
open Jvm Jvm.ClassFile Sem Op Lib Jvm.Free Jvm.Stand Jvm.Pilot.@@N@@.Jvm.D
/-! MADE BY PROGRAM (witnessworld.py) out of the Statement's table words and the real class files: 9 classes; the members and pool entries that the words name. The judged class is class 1, her method 1. -/
namespace start1
open Jvm.ClassFile
def u (s : String) : CpInfo := .utf8 (stringToUtf16 s)
/-- a pool by its gaps: so many unusable entries, then the entry; so many at the end -/
def gap : Nat → List CpInfo → List CpInfo
  | 0, r => r
  | n + 1, r => .unusable :: gap n r
def poolList (es : List (Nat × CpInfo)) (last : Nat) : List CpInfo := es.foldr (fun e r => gap e.1 (e.2 :: r)) (gap last [])
def pool (es : List (Nat × CpInfo)) (last : Nat) : Array CpInfo := ⟨poolList es last⟩
def fileOf (pool : Array CpInfo) (this : Nat) (attrs : Array Attribute := #[]) (ms : Array MethodInfo := #[]) (fl : Nat := 33) (sup : Nat := 0) (ifs : Array Nat := #[]) (fds : Array FieldInfo := #[]) : ClassFile where
  minorVersion := 0
  majorVersion := 65
  constantPool := pool
  accessFlags := fl
  thisClass := this
  superClass := sup
  interfaces := ifs
  fields := fds
  methods := ms
  attributes := attrs
def plain (name : String) (sup : Option ClassId) : Class where
  name := name
  kind := .ordinary
  loader := none
  accessFlags := 33
  super := sup
  interfaces := #[]
  cf := none
  fields := #[]
  methods := #[]
  instanceTypes := #[]
  staticTypes := #[]
  resolved := #[]
  callSites := []
  init := .initialized
  statics := none
  mirror := none

def pool0 : Array CpInfo := pool [(5, u "<init>"), (0, u "()V"), (1, .class_ 10), (1, u "java/lang/Object")] 113

def k0m0 : Method := { name := "<init>", desc := "()V", sig := { parameters := [], returnType := none }, accessFlags := 1, code := none }
/-- java/lang/Object -/
def k0 : Class := { plain "java/lang/Object" none with
  accessFlags := 33
  interfaces := #[]
  cf := some (fileOf pool0 8 #[] #[{ accessFlags := 1, nameIndex := 5, descriptorIndex := 6, attributes := #[] }] 33 0 #[] #[])
  fields := #[]
  methods := #[k0m0]
  instanceTypes := #[]
  staticTypes := #[]
  resolved := Array.replicate 124 none
  statics := none }

def pool1 : Array CpInfo := pool [(2, .class_ 4), (1, u "java/lang/Object"), (0, u "<init>"), (0, u "()V"), (0, .integer 1048576), (0, .double 4616189618054758400), (1, .methodref 11 12), (0, .class_ 13), (0, .nameAndType 14 15), (0, u "com/example/capstrike/capstrike/StandardNormal"), (0, u "densityError"), (0, u "(D)D"), (0, .long 192), (1, .double 4868391197187506176), (1, .class_ 21), (0, u "com/example/capstrike/capstrike/StandardNormalDensityErrorPinLaw"), (2, u "law"), (0, u "(I)Z")] 3

def k1m0 : Method := { name := "<init>", desc := "()V", sig := { parameters := [], returnType := none }, accessFlags := 2, code := none }
def k1c1 : Code := { maxStack := 6, maxLocals := 10, code := code, exceptionTable := #[], attributes := #[] }
def k1m1 : Method := { name := "law", desc := "(I)Z", sig := { parameters := [.int], returnType := some .boolean }, accessFlags := 9, code := some k1c1 }
/-- com/example/capstrike/capstrike/StandardNormalDensityErrorPinLaw -/
def k1 : Class := { plain "com/example/capstrike/capstrike/StandardNormalDensityErrorPinLaw" (some 0) with
  accessFlags := 49
  interfaces := #[]
  cf := some (fileOf pool1 20 #[] #[{ accessFlags := 2, nameIndex := 5, descriptorIndex := 6, attributes := #[] }, { accessFlags := 9, nameIndex := 24, descriptorIndex := 25, attributes := #[] }] 49 2 #[] #[])
  fields := #[]
  methods := #[k1m0, k1m1]
  instanceTypes := #[]
  staticTypes := #[]
  resolved := Array.replicate 29 none
  statics := none }

def pool2 : Array CpInfo := pool [(2, .class_ 4), (1, u "java/lang/Object"), (0, u "<init>"), (0, u "()V"), (5, u "(D)D"), (0, .class_ 14), (0, u "com/example/capstrike/capstrike/StandardNormal"), (17, u "INVERSE_SQRT_TWO_PI"), (0, u "D"), (0, .double 4611686018427387904), (4, .double 4618441417868443648), (1, .double 4368491638549381120), (22, u "NEGLIGIBLE_BEYOND_END"), (0, u "Lcom/example/capstrike/capstrike/Interval;"), (58, u "SQRT_TWO_PI"), (0, u "Ljava/util/Map;"), (66, u "TAIL"), (1, u "NEGLIGIBLE_TAIL"), (0, u "MOST_STEPS"), (0, u "I"), (1, u "ERROR"), (2, u "ROUNDING"), (0, u "DENSITY_LOSS"), (2, u "GUARD_BITS"), (1, u "ENCLOSED_TAIL_END"), (0, u "J"), (6, u "densityError")] 31

def k2m0 : Method := { name := "<init>", desc := "()V", sig := { parameters := [], returnType := none }, accessFlags := 2, code := none }
def k2c1 : Code := { maxStack := 6, maxLocals := 2, code := prog_71_method_4_code, exceptionTable := #[], attributes := #[] }
def k2m1 : Method := { name := "densityError", desc := "(D)D", sig := { parameters := [.double], returnType := some .double }, accessFlags := 8, code := some k2c1 }
/-- com/example/capstrike/capstrike/StandardNormal -/
def k2 : Class := { plain "com/example/capstrike/capstrike/StandardNormal" (some 0) with
  accessFlags := 32
  interfaces := #[]
  cf := some (fileOf pool2 13 #[] #[{ accessFlags := 2, nameIndex := 5, descriptorIndex := 6, attributes := #[] }, { accessFlags := 8, nameIndex := 215, descriptorIndex := 12, attributes := #[] }] 32 2 #[] #[{ accessFlags := 26, nameIndex := 32, descriptorIndex := 33, attributes := #[] }, { accessFlags := 26, nameIndex := 192, descriptorIndex := 33, attributes := #[] }, { accessFlags := 26, nameIndex := 194, descriptorIndex := 33, attributes := #[] }, { accessFlags := 26, nameIndex := 195, descriptorIndex := 196, attributes := #[] }, { accessFlags := 24, nameIndex := 198, descriptorIndex := 33, attributes := #[] }, { accessFlags := 26, nameIndex := 201, descriptorIndex := 33, attributes := #[] }, { accessFlags := 24, nameIndex := 202, descriptorIndex := 33, attributes := #[] }, { accessFlags := 26, nameIndex := 205, descriptorIndex := 196, attributes := #[] }, { accessFlags := 26, nameIndex := 207, descriptorIndex := 208, attributes := #[] }, { accessFlags := 26, nameIndex := 64, descriptorIndex := 65, attributes := #[] }, { accessFlags := 26, nameIndex := 124, descriptorIndex := 125, attributes := #[] }])
  fields := #[{ name := "INVERSE_SQRT_TWO_PI", type := .double, accessFlags := 26, slot := 0, constantValue := 0 }, { name := "TAIL", type := .double, accessFlags := 26, slot := 1, constantValue := 0 }, { name := "NEGLIGIBLE_TAIL", type := .double, accessFlags := 26, slot := 2, constantValue := 0 }, { name := "MOST_STEPS", type := .int, accessFlags := 26, slot := 3, constantValue := 0 }, { name := "ERROR", type := .double, accessFlags := 24, slot := 4, constantValue := 0 }, { name := "ROUNDING", type := .double, accessFlags := 26, slot := 5, constantValue := 0 }, { name := "DENSITY_LOSS", type := .double, accessFlags := 24, slot := 6, constantValue := 0 }, { name := "GUARD_BITS", type := .int, accessFlags := 26, slot := 7, constantValue := 0 }, { name := "ENCLOSED_TAIL_END", type := .long, accessFlags := 26, slot := 8, constantValue := 0 }, { name := "NEGLIGIBLE_BEYOND_END", type := (.object "com/example/capstrike/capstrike/Interval"), accessFlags := 26, slot := 9, constantValue := 0 }, { name := "SQRT_TWO_PI", type := (.object "java/util/Map"), accessFlags := 26, slot := 10, constantValue := 0 }]
  methods := #[k2m0, k2m1]
  instanceTypes := #[]
  staticTypes := #[.double, .double, .double, .int, .double, .double, .double, .int, .long, (.object "com/example/capstrike/capstrike/Interval"), (.object "java/util/Map")]
  resolved := Array.replicate 247 none
  statics := none }

def pool3 : Array CpInfo := pool [(1, u "java/lang/Cloneable"), (0, .class_ 1), (0, u "java/lang/Object"), (0, .class_ 3)] 3

/-- java/lang/Cloneable -/
def k3 : Class := { plain "java/lang/Cloneable" (some 0) with
  accessFlags := 1537
  interfaces := #[]
  cf := some (fileOf pool3 2 #[] #[] 1537 4 #[] #[])
  fields := #[]
  methods := #[]
  instanceTypes := #[]
  staticTypes := #[]
  resolved := Array.replicate 8 none
  statics := none }

def pool4 : Array CpInfo := pool [(1, u "java/io/Serializable"), (0, .class_ 1), (0, u "java/lang/Object"), (0, .class_ 3)] 3

/-- java/io/Serializable -/
def k4 : Class := { plain "java/io/Serializable" (some 0) with
  accessFlags := 1537
  interfaces := #[]
  cf := some (fileOf pool4 2 #[] #[] 1537 4 #[] #[])
  fields := #[]
  methods := #[]
  instanceTypes := #[]
  staticTypes := #[]
  resolved := Array.replicate 8 none
  statics := none }

/-- the primitive byte -/
def k5 : Class := { plain "byte" none with kind := .primitive 'B', accessFlags := 0x411 }
/-- [B -/
def k6 : Class := { plain "[B" (some 0) with kind := .array 5 .byte, interfaces := #[3, 4], accessFlags := 1041 }

/-- the primitive int -/
def k7 : Class := { plain "int" none with kind := .primitive 'I', accessFlags := 0x411 }
/-- [I -/
def k8 : Class := { plain "[I" (some 0) with kind := .array 7 .int, interfaces := #[3, 4], accessFlags := 1041 }

def heap : Heap := #[]
def classes : Array Class := #[k0, k1, k2, k3, k4, k5, k6, k7, k8]
def interned : List (Array UInt16 × Addr) := []
def slotsUsed : Nat := 0
def theMethod : MethodId := ⟨1, 1⟩
def args0 : Array Value := #[.int 5]
def aboutOver (below : List Frame) : State where
  vm := { classes := classes, interned := interned.toArray }
  heap := heap
  slotsUsed := slotsUsed
  threads := #[{ frames := .invoking theMethod args0 :: below }]
def below0 : List Frame := [.native { method := ⟨0, 0⟩, args := #[] }]
def about1 : State := aboutOver below0
def p0 : Program := .bare "" "" ""
def e0 : Env := launch0.env 0 0 0
theorem w_frames : about1.frames = Frame.invoking theMethod args0 :: below0 := rfl
set_option maxRecDepth 65536 in
theorem w_args : argsFit about1.vm theMethod args0 = true := by decide +kernel
set_option maxRecDepth 65536 in
theorem w_heap : heapFits about1 = true := by decide +kernel
set_option maxRecDepth 65536 in
theorem w_runnable : about1.curStatus? = some .runnable := by decide +kernel
set_option maxRecDepth 65536 in
theorem w_alone : about1.alone = true := by decide +kernel
set_option maxRecDepth 65536 in
theorem w_named : about1.methodNamed? x = some theMethod := by decide +kernel
set_option maxRecDepth 65536 in
theorem w_hears : about1.hears theMethod below0 = true := by decide +kernel
set_option maxRecDepth 65536 in
theorem w_ripe : about1.ripe theMethod args0 below0 = true := by decide +kernel
theorem w_running : about1.status = .running := rfl
set_option maxRecDepth 65536 in
theorem w_room : about1.hasRoom e0.platform room_1 = true :=
  launch0.hasRoom_least _ room_1 (by decide +kernel) (by decide +kernel) (by decide +kernel) (by decide +kernel) (by decide +kernel) (by decide +kernel)
theorem allAtoms_all (ts : List Jvm.Cond) (a : Array Jvm.Value) (st : Jvm.State) : (allAtoms ts).before a st = ts.all (fun c => c.before a st) := by
  induction ts with
  | nil => rfl
  | cons c t ih =>
    show (Jvm.Cond.and c (allAtoms t)).before a st = _
    rw [Jvm.Cond.before_and, ih, List.all_cons]
def words1 : List Jvm.Cond := Jvm.Cond.code x code maxLocals ret :: tables_1
/-- a 'code' word, met by the world's own term for the bytes: nothing is compared byte by byte -/
theorem code_word {y : MethodName} {bytes : ByteArray} {mx : Nat} {rt : Option FieldType} {a : Array Value} {s : State} {m : MethodId} {meth : Method} {c : Code} (h1 : s.methodNamed? y = some m) (h2 : s.vm.method? m = some meth) (h3 : meth.code = some c) (h4 : c.code = bytes)
    (h5 : (c.maxLocals == mx && c.exceptionTable.isEmpty && decide (c.maxStack ≤ mostOperands) && decide (meth.sig.returnType = rt) && !meth.locks && decide (parseMethodDescriptor y.desc = some meth.sig)) = true) : (Jvm.Cond.code y bytes mx rt).before a s = true := by
  simp only [Bool.and_eq_true, beq_iff_eq, Bool.not_eq_true', decide_eq_true_eq] at h5
  obtain ⟨⟨⟨⟨⟨g1, g2⟩, g3⟩, g4⟩, g5⟩, g6⟩ := h5
  simp [Cond.before, Cond.holds, Cond.value, h1, h2, h3, h4, g1, g2, g3, g4, g5, g6]
def isCode : Jvm.Cond → Bool
  | .code _ _ _ _ => true
  | _ => false
theorem all_split {L : List Jvm.Cond} {P : Jvm.Cond → Bool} (h1 : L.all (fun c => isCode c || P c) = true) (h2 : ∀ c ∈ L.filter isCode, P c = true) : L.all P = true := by
  refine List.all_eq_true.mpr fun c hc => ?_
  have h := List.all_eq_true.mp h1 c hc
  rcases Bool.eq_false_or_eq_true (isCode c) with hi | hi
  · exact h2 c (List.mem_filter.mpr ⟨hc, hi⟩)
  · simpa [hi] using h
set_option maxRecDepth 65536 in
theorem w_c0 : (Jvm.Cond.code x code maxLocals ret).before args0 about1 = true := code_word (m := ⟨1, 1⟩) (meth := k1m1) (c := k1c1) (by decide +kernel) rfl rfl rfl (by decide +kernel)
set_option maxRecDepth 65536 in
theorem w_c1 : (Jvm.Cond.code ({ cls := "com/example/capstrike/capstrike/StandardNormal", name := "densityError", desc := "(D)D" } : Jvm.MethodName) prog_71_method_4_code (2 : Nat) (Option.some Jvm.ClassFile.FieldType.double)).before args0 about1 = true := code_word (m := ⟨2, 1⟩) (meth := k2m1) (c := k2c1) (by decide +kernel) rfl rfl rfl (by decide +kernel)
def codes1 : List Jvm.Cond := [Jvm.Cond.code x code maxLocals ret, Jvm.Cond.code ({ cls := "com/example/capstrike/capstrike/StandardNormal", name := "densityError", desc := "(D)D" } : Jvm.MethodName) prog_71_method_4_code (2 : Nat) (Option.some Jvm.ClassFile.FieldType.double)]
set_option maxRecDepth 65536 in
theorem codes_eq : words1.filter isCode = codes1 := rfl
theorem w_codes : ∀ c ∈ words1.filter isCode, c.before args0 about1 = true := by
  rw [codes_eq]
  intro c hc
  simp only [codes1, List.mem_cons, List.not_mem_nil, or_false] at hc
  rcases hc with rfl | rfl
  · exact w_c0
  · exact w_c1
set_option maxRecDepth 65536 in
theorem w_t1 : words1.all (fun c => isCode c || c.before args0 about1) = true := by decide +kernel
theorem w_tables : (allAtoms (Jvm.Cond.code x code maxLocals ret :: tables_1)).before args0 about1 = true := by
  rw [allAtoms_all]
  show words1.all (fun c => c.before args0 about1) = true
  refine all_split ?_ w_codes
  rw [w_t1]
set_option maxRecDepth 65536 in
theorem w_case : (Jvm.Cond.and given_1 narrow_1).before args0 about1 = true := by decide +kernel
theorem w_applies : (headSpec (Jvm.Cond.code x code maxLocals ret :: tables_1) room_1).applies x e0.platform about1 = true :=
  (Spec.applies_iff w_frames).mpr ⟨w_running, w_runnable, w_alone, w_named, w_hears, w_ripe, w_room, w_tables⟩
theorem atStart : AtStart classFile x code maxLocals ret World_1 tables_1 room_1 Calls_1 rest_1 Pre_1 launch0 p0 e0 about1 theMethod args0 below0 :=
  ⟨lists_1, trivial, launch0.admits_env _ _ _, launch0.least_env, fairChoices_fair.cas, fairChoices_fair.clock, w_frames, w_args, w_heap, w_applies, trivial, trivial, w_case⟩
end start1
theorem witness_1 : WitnessClaimed_1 := ⟨start1.p0, start1.e0, start1.about1, start1.theMethod, start1.args0, start1.below0, start1.atStart⟩
end Jvm.Pilot.@@N@@
