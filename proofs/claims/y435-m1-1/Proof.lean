import JvmDerived
import JvmDerived.Pilot.@@N@@Statement
import JvmDerived.Pilot.@@N@@Code
set_option linter.unusedVariables false
set_option linter.unusedSimpArgs false

namespace Jvm.Pilot.@@N@@
open Jvm Jvm.ClassFile Sem Op Lib Jvm.Free Jvm.Stand Jvm.LawKit Jvm.RoadKit Bundle Jvm.Pilot.@@N@@.Jvm.D
section OwnKit
variable {p : Program} {l : Launch} {e : Env} {R : Room} {s : State} {m : MethodId} {args : Array Value} {below : List Frame} {meth : Method} {c : Code} {T : State} {locs : List Loc} {cells slots : Nat}
def own_Go (p : Program) (e : Env) (below : List Frame) (P : Outcome → State → Prop) (U : State) : Prop := ∃ s₂ o, Steps p.tables e below U s₂ ∧ s₂.status = .running ∧ Ended s₂ below o ∧ P o s₂
abbrev own_Post (s : State) (Q : Option Value → Heap → List Loc → Prop) (K N : Nat) : Outcome → State → Prop := fun o U => ∃ v L, o = .returned v ∧ Q v U.heap L ∧ FrameEnd s o U L K N
theorem own_to {P : Outcome → State → Prop} {U V : State} (k : own_Go p e below P V) (h : ∀ t, Steps p.tables e below V t → Steps p.tables e below U t) : own_Go p e below P U := by
  obtain ⟨s₂, o, a, r⟩ := k
  exact ⟨s₂, o, h _ a, r⟩
theorem own_start {U : State} {K N : Nat} (Q : Option Value → Heap → List Loc → Prop) (k : own_Go p e below (own_Post s Q K N) U) : ∃ s₂ o, Steps p.tables e below U s₂ ∧ s₂.status = .running ∧ Ended s₂ below o ∧ ∃ v L, o = .returned v ∧ Q v s₂.heap L ∧ FrameEnd s o s₂ L K N := k
theorem own_irem {tb : Tables} [Ours tb] {e : Env} {below : List Frame} {T target : State} {m : MethodId} {c : Code} {g : JFrame} (h : At T m c below) (hx : tb.exec = Jvm.exec) (hg : g.method = m) {x y : Int32} {rest : List Value} (hd : decode c.code g.pc = .ok (.irem, 1)) (hs : g.stack = .int y :: .int x :: rest) (hy : y ≠ 0)
    (hr : Steps tb e below (T.setTop { g with pc := g.pc + 1, stack := .int (x % y) :: rest }) target) : Steps tb e below (T.setTop g) target := by
  refine XS.irem h hx hg hd hs hy ?_
  have q : x - x / y * y = x % y := Jvm.irem_eq_mod x y
  rw [q]; exact hr
theorem own_lrem {tb : Tables} [Ours tb] {e : Env} {below : List Frame} {T target : State} {m : MethodId} {c : Code} {g : JFrame} (h : At T m c below) (hx : tb.exec = Jvm.exec) (hg : g.method = m) {x y : Int64} {rest : List Value} (hd : decode c.code g.pc = .ok (.lrem, 1)) (hs : g.stack = .long y :: .long x :: rest) (hy : y ≠ 0)
    (hr : Steps tb e below (T.setTop { g with pc := g.pc + 1, stack := .long (x % y) :: rest }) target) : Steps tb e below (T.setTop g) target := by
  refine Jvm.Free.XT.lrem h hx hg hd hs hy ?_
  have q : x - x / y * y = x % y := Jvm.RoadKit.lrem_mod x y
  rw [q]; exact hr
section Out
variable {Q : Option Value → Heap → List Loc → Prop} {K N : Nat}
theorem own_out (X : Stand p l e R s m args below meth c T locs cells slots) {v : Option Value} (hv : meth.sig.returnType = none → v = none) (hlk : meth.locks = false) {g : JFrame}
    (st : ∀ fs, (∀ (f : JFrame) (acts : List Action), f.method = m → f.locked = none → f.entered = [] → (doReturn e (T.setTop f) acts v).1 = T.setFrames fs) → Steps p.tables e below (T.setTop g) (T.setFrames fs)) (hq : Q v T.heap locs) (hk : cells ≤ K) (hn : slots ≤ N) : own_Go p e below (own_Post s Q K N) (T.setTop g) := by
  obtain ⟨fs, hr, hrun, hended, hW, hsame⟩ := X.leave (v := v) hv hlk
  exact ⟨_, _, st fs hr, hrun, hended, v, locs, rfl, hq, ⟨_, rfl⟩, hW, hsame.mono hk hn⟩
theorem own_retN (X : Stand p l e R s m args below meth c T locs cells slots) (hx : p.tables.exec = Jvm.exec) {pc : Nat} {Ls : Array Slot} {z w : Int32} {t : FieldType} {rest : List Value} (hret : meth.sig.returnType = some t) (ht : t = .boolean ∨ t = .byte ∨ t = .char ∨ t = .short) (hn' : nar t z = w) (hlk : meth.locks = false)
    (hd : decode c.code pc = .ok (.ireturn, 1)) (hq : Q (some (.int w)) T.heap locs) (hk : cells ≤ K) (hn : slots ≤ N) : own_Go p e below (own_Post s Q K N) (T.setTop (mkF m pc Ls (.int z :: rest))) := by
  subst hn'
  exact own_out X (fun h => by rw [hret] at h; cases h) hlk (fun fs hr => retN X hx hret ht hd hr) hq hk hn
theorem own_retI (X : Stand p l e R s m args below meth c T locs cells slots) (hx : p.tables.exec = Jvm.exec) {pc : Nat} {Ls : Array Slot} {z : Int32} {rest : List Value} (hret : meth.sig.returnType = some .int) (hlk : meth.locks = false)
    (hd : decode c.code pc = .ok (.ireturn, 1)) (hq : Q (some (.int z)) T.heap locs) (hk : cells ≤ K) (hn : slots ≤ N) : own_Go p e below (own_Post s Q K N) (T.setTop (mkF m pc Ls (.int z :: rest))) :=
  own_out X (fun h => by rw [hret] at h; cases h) hlk (fun fs hr => retOut X hx hret rfl (Or.inl ⟨rfl, Or.inl rfl, _, rfl⟩) hd hr) hq hk hn
theorem own_retJ (X : Stand p l e R s m args below meth c T locs cells slots) (hx : p.tables.exec = Jvm.exec) {pc : Nat} {Ls : Array Slot} {z : Int64} {rest : List Value} (hret : meth.sig.returnType = some .long) (hlk : meth.locks = false)
    (hd : decode c.code pc = .ok (.lreturn, 1)) (hq : Q (some (.long z)) T.heap locs) (hk : cells ≤ K) (hn : slots ≤ N) : own_Go p e below (own_Post s Q K N) (T.setTop (mkF m pc Ls (.long z :: rest))) :=
  own_out X (fun h => by rw [hret] at h; cases h) hlk (fun fs hr => retOut X hx hret rfl (Or.inr (Or.inl ⟨rfl, rfl, _, rfl⟩)) hd hr) hq hk hn
theorem own_retD (X : Stand p l e R s m args below meth c T locs cells slots) (hx : p.tables.exec = Jvm.exec) {pc : Nat} {Ls : Array Slot} {z : UInt64} {rest : List Value} (hret : meth.sig.returnType = some .double) (hlk : meth.locks = false)
    (hd : decode c.code pc = .ok (.dreturn, 1)) (hq : Q (some (.double z)) T.heap locs) (hk : cells ≤ K) (hn : slots ≤ N) : own_Go p e below (own_Post s Q K N) (T.setTop (mkF m pc Ls (.double z :: rest))) :=
  own_out X (fun h => by rw [hret] at h; cases h) hlk (fun fs hr => retOut X hx hret rfl (Or.inr (Or.inr (Or.inl ⟨rfl, rfl, _, rfl⟩))) hd hr) hq hk hn
theorem own_retR (X : Stand p l e R s m args below meth c T locs cells slots) (hx : p.tables.exec = Jvm.exec) {pc : Nat} {Ls : Array Slot} {w : Value} {t : FieldType} {rest : List Value} (hret : meth.sig.returnType = some t) (ht : t.isReference = true) (hw : w.isRef = true) (hlk : meth.locks = false)
    (hd : decode c.code pc = .ok (.areturn, 1)) (hq : Q (some w) T.heap locs) (hk : cells ≤ K) (hn : slots ≤ N) : own_Go p e below (own_Post s Q K N) (T.setTop (mkF m pc Ls (w :: rest))) :=
  own_out X (fun h => by rw [hret] at h; cases h) hlk (fun fs hr => retOut X hx hret (by cases t <;> first | (cases ht; done) | (cases w <;> first | rfl | (cases hw; done))) (Or.inr (Or.inr (Or.inr (Or.inr ⟨rfl, ht, hw⟩)))) hd hr) hq hk hn
theorem own_retV (X : Stand p l e R s m args below meth c T locs cells slots) (hx : p.tables.exec = Jvm.exec) {pc : Nat} {Ls : Array Slot} (hret : meth.sig.returnType = none) (hlk : meth.locks = false)
    (hd : decode c.code pc = .ok (.return_, 1)) (hq : Q none T.heap locs) (hk : cells ≤ K) (hn : slots ≤ N) : own_Go p e below (own_Post s Q K N) (T.setTop (mkF m pc Ls [])) :=
  own_out X (fun _ => rfl) hlk (fun fs hr => X.returnOut hx hret hd hr) hq hk hn
end Out
abbrev own_PostW (s : State) (Q : Option Value → Heap → List Loc → Prop) (K N : Nat) : Outcome → State → Prop := fun o U => ∃ v L, o = .returned v ∧ Q v U.heap L ∧ ReturnedEndW s o U L K N
theorem own_startW {U : State} {K N : Nat} (Q : Option Value → Heap → List Loc → Prop) (k : own_Go p e below (own_PostW s Q K N) U) : ∃ s₂ o, Steps p.tables e below U s₂ ∧ s₂.status = .running ∧ Ended s₂ below o ∧ ∃ v L, o = .returned v ∧ Q v s₂.heap L ∧ ReturnedEndW s o s₂ L K N := k
section OutW
variable {Q : Option Value → Heap → List Loc → Prop} {K N k0 : Nat} {vm0 : Vm}
theorem own_outW (X : Stand p l e R (s.setVm vm0) m args below meth c T locs cells slots) (hS : s.Since vm0 k0) (hk0 : k0 ≤ T.heap.size) {v : Option Value} (hv : meth.sig.returnType = none → v = none) (hlk : meth.locks = false) {g : JFrame}
    (st : ∀ fs, (∀ (f : JFrame) (acts : List Action), f.method = m → f.locked = none → f.entered = [] → (doReturn e (T.setTop f) acts v).1 = T.setFrames fs) → Steps p.tables e below (T.setTop g) (T.setFrames fs)) (hq : Q v T.heap locs) (hk : cells ≤ K) (hn : slots ≤ N) : own_Go p e below (own_PostW s Q K N) (T.setTop g) := by
  obtain ⟨fs, hr, hrun, hended, h1, h2, h3, hsame⟩ := X.leaveW hS hk0 (v := v) hv hlk
  exact ⟨_, _, st fs hr, hrun, hended, v, locs, rfl, hq, h1, h2, h3, hsame.mono hk hn⟩
theorem own_retNW (X : Stand p l e R (s.setVm vm0) m args below meth c T locs cells slots) (hx : p.tables.exec = Jvm.exec) (hS : s.Since vm0 k0) (hk0 : k0 ≤ T.heap.size) {pc : Nat} {Ls : Array Slot} {z w : Int32} {t : FieldType} {rest : List Value} (hret : meth.sig.returnType = some t) (ht : t = .boolean ∨ t = .byte ∨ t = .char ∨ t = .short) (hn' : nar t z = w) (hlk : meth.locks = false)
    (hd : decode c.code pc = .ok (.ireturn, 1)) (hq : Q (some (.int w)) T.heap locs) (hk : cells ≤ K) (hn : slots ≤ N) : own_Go p e below (own_PostW s Q K N) (T.setTop (mkF m pc Ls (.int z :: rest))) := by
  subst hn'
  exact own_outW X hS hk0 (fun h => by rw [hret] at h; cases h) hlk (fun fs hr => retN X hx hret ht hd hr) hq hk hn
theorem own_retIW (X : Stand p l e R (s.setVm vm0) m args below meth c T locs cells slots) (hx : p.tables.exec = Jvm.exec) (hS : s.Since vm0 k0) (hk0 : k0 ≤ T.heap.size) {pc : Nat} {Ls : Array Slot} {z : Int32} {rest : List Value} (hret : meth.sig.returnType = some .int) (hlk : meth.locks = false)
    (hd : decode c.code pc = .ok (.ireturn, 1)) (hq : Q (some (.int z)) T.heap locs) (hk : cells ≤ K) (hn : slots ≤ N) : own_Go p e below (own_PostW s Q K N) (T.setTop (mkF m pc Ls (.int z :: rest))) :=
  own_outW X hS hk0 (fun h => by rw [hret] at h; cases h) hlk (fun fs hr => retOut X hx hret rfl (Or.inl ⟨rfl, Or.inl rfl, _, rfl⟩) hd hr) hq hk hn
theorem own_retRW (X : Stand p l e R (s.setVm vm0) m args below meth c T locs cells slots) (hx : p.tables.exec = Jvm.exec) (hS : s.Since vm0 k0) (hk0 : k0 ≤ T.heap.size) {pc : Nat} {Ls : Array Slot} {w : Value} {t : FieldType} {rest : List Value} (hret : meth.sig.returnType = some t) (ht : t.isReference = true) (hw : w.isRef = true) (hlk : meth.locks = false)
    (hd : decode c.code pc = .ok (.areturn, 1)) (hq : Q (some w) T.heap locs) (hk : cells ≤ K) (hn : slots ≤ N) : own_Go p e below (own_PostW s Q K N) (T.setTop (mkF m pc Ls (w :: rest))) :=
  own_outW X hS hk0 (fun h => by rw [hret] at h; cases h) hlk (fun fs hr => retOut X hx hret (by cases t <;> first | (cases ht; done) | (cases w <;> first | rfl | (cases hw; done))) (Or.inr (Or.inr (Or.inr (Or.inr ⟨rfl, ht, hw⟩)))) hd hr) hq hk hn
theorem own_retVW (X : Stand p l e R (s.setVm vm0) m args below meth c T locs cells slots) (hx : p.tables.exec = Jvm.exec) (hS : s.Since vm0 k0) (hk0 : k0 ≤ T.heap.size) {pc : Nat} {Ls : Array Slot} (hret : meth.sig.returnType = none) (hlk : meth.locks = false)
    (hd : decode c.code pc = .ok (.return_, 1)) (hq : Q none T.heap locs) (hk : cells ≤ K) (hn : slots ≤ N) : own_Go p e below (own_PostW s Q K N) (T.setTop (mkF m pc Ls [])) :=
  own_outW X hS hk0 (fun _ => rfl) hlk (fun fs hr => X.returnOut hx hret hd hr) hq hk hn
end OutW
theorem own_ole {Z : State} {n0 : Nat} {h : Heap} (X : Old Z n0 h) : n0 ≤ h.size := X.1 ▸ X.2.1
theorem own_hk {T : State} {h : Heap} {k0 : Nat} (e : T.heap = h) (q : k0 ≤ h.size) : k0 ≤ T.heap.size := Nat.le_trans q (Nat.le_of_eq (congrArg Array.size e.symm))
theorem own_lat2 {cs : List Int32} (h : ∀ c ∈ cs, ¬ c < 0 ∧ ¬ (255 : Int32) < c) : ∀ c ∈ cs, ¬ (255 : Int32) < c := fun c hc => (h c hc).2
theorem own_nm0 {a : Addr} : a ∉ ([] : List Addr) := List.not_mem_nil
theorem own_nmS {a b : Addr} {L : List Addr} (h : a ≠ b) (r : a ∉ L) : a ∉ b :: L := fun q => (List.mem_cons.mp q).elim h r
theorem own_cat {v : Value} (h : v.isRef = true) : v.category = 1 := by cases v <;> first | rfl | (cases h; done)
theorem own_narR {v : Value} {C : String} (h : v.isRef = true) : narrow (.object C) v = v := by cases v <;> first | rfl | (cases h; done)
theorem own_fitR {v : Value} {C : String} (h : v.isRef = true) : fits (.object C) v = true := by cases v <;> first | rfl | (cases h; done)
theorem own_all0 {P : Int32 → Prop} : ∀ x ∈ ([] : List Int32), P x := fun _ q => nomatch q
theorem own_allS {P : Int32 → Prop} {y : Int32} {L : List Int32} (q : P y) (r : ∀ x ∈ L, P x) : ∀ x ∈ y :: L, P x := fun x z => (List.mem_cons.mp z).elim (fun u => u ▸ q) (r x)
theorem own_i2c_rng (x : Int32) : ¬ x.toUInt32.toUInt16.toUInt32.toInt32 < 0 ∧ ¬ (65535 : Int32) < x.toUInt32.toUInt16.toUInt32.toInt32 := by
  have q := c_i2c x
  have e1 : (65535 : Int32).toInt = 65535 := rfl
  have e0 : (0 : Int32).toInt = 0 := rfl
  simp only [Int32.lt_iff_toInt_lt, e1, e0]
  omega
theorem own_and255 (x : Int32) : ¬ (x &&& (255 : Int32)).toUInt32.toUInt16.toUInt32.toInt32 < 0 ∧ ¬ (255 : Int32) < (x &&& (255 : Int32)).toUInt32.toUInt16.toUInt32.toInt32 := by
  rw [i2c_mask]
  have q := c_and x 255 (by decide)
  have e1 : (255 : Int32).toInt = 255 := rfl
  have e0 : (0 : Int32).toInt = 0 := rfl
  simp only [Int32.lt_iff_toInt_lt, e1, e0] at q ⊢
  omega
theorem own_up {x : Int32} (h : ¬ x < 0 ∧ ¬ (255 : Int32) < x) : ¬ x < 0 ∧ ¬ (65535 : Int32) < x := by
  have e1 : (255 : Int32).toInt = 255 := rfl
  have e2 : (65535 : Int32).toInt = 65535 := rfl
  have e0 : (0 : Int32).toInt = 0 := rfl
  simp only [Int32.lt_iff_toInt_lt, e1, e2, e0] at h ⊢
  omega
theorem own_i2c_id {x : Int32} (h : ¬ x < 0 ∧ ¬ (65535 : Int32) < x) : x.toUInt32.toUInt16.toUInt32.toInt32 = x := by
  have q := c_i2c x
  have e2 : (65535 : Int32).toInt = 65535 := rfl
  have e0 : (0 : Int32).toInt = 0 := rfl
  simp only [Int32.lt_iff_toInt_lt, e2, e0] at h
  apply Int32.toInt_inj.mp
  omega
theorem own_narC {x : Int32} (h : ¬ x < 0 ∧ ¬ (65535 : Int32) < x) : nar .char x = x := own_i2c_id h
theorem own_fitC {x : Int32} (h : ¬ x < 0 ∧ ¬ (65535 : Int32) < x) : fits .char (.int x) = true := by rw [← own_narC h]; exact fits_nar_char x
theorem own_narB {x : Int32} : nar .byte (x.toInt8.toInt32) = x.toInt8.toInt32 := by
  have h : ∀ y : Int8, y.toInt32.toInt8 = y := fun y => by simp
  show (x.toInt8.toInt32).toInt8.toInt32 = _
  rw [h]
theorem own_narZ {x : Int32} (h : x = 0 ∨ x = 1) : nar .boolean x = x := by rcases h with rfl | rfl <;> rfl
end OwnKit

def own_St (Z : State) : Prop := True
section Fl
open Jvm.FP.Core
def own_R (A B : Nat) : Datum := roundRatio b64 false A B 0
theorem own_qm : b64.qmin = -1074 := by decide
theorem own_one : Jvm.FP.Core.fits b64 (.fin false (2 ^ 52) (-52)) := ⟨by decide, by decide, by decide, Or.inr (by decide)⟩
theorem own_fin {A B : Nat} (hB : 0 < B) (h : A ≤ B) : ∃ c q, own_R A B = .fin false c q ∧ Jvm.FP.Core.fits b64 (.fin false c q) := by
  have hf := roundRatio_fits (f := b64) good_b64 false A hB 0
  have hs := sgn_roundRatio b64 false A B 0
  have hn := roundRatio_ne_nan b64 false A B 0
  obtain ⟨n0, e2⟩ : ∃ n, (-52 - b64.qmin).toNat = n := ⟨_, rfl⟩
  have e1 : (0 - b64.qmin).toNat = 52 + n0 := by rw [← e2]; decide
  have e3 : (b64.qmin - b64.qmin).toNat = 0 := by decide
  have hz := zmag_roundRatio_le (f := b64) good_b64 (s := false) (A := A) (B := B) (e := 0) (e0 := b64.qmin) (V := .fin false (2 ^ 52) (-52)) hB own_one (by simp) (Int.le_refl _) (by decide) (by
    simp only [zmag, inUnits, e1, e2, e3]
    rw [Nat.pow_zero, Nat.mul_one, ← Nat.pow_add, Nat.mul_comm]
    exact Nat.mul_le_mul_left _ h)
  unfold own_R
  cases hd : roundRatio b64 false A B 0 with
  | nan => exact absurd hd hn
  | inf t =>
    exfalso
    rw [hd] at hz
    have e4 : b64.tails = 2 ^ 52 := by decide
    obtain ⟨n5, e5⟩ : ∃ n, b64.exps - 2 = n := ⟨_, rfl⟩
    obtain ⟨n2, e6⟩ : ∃ n, (-52 - b64.qmin).toNat = n := ⟨_, rfl⟩
    have lt : n2 < n5 := by rw [← e5, ← e6]; decide
    simp only [zmag, inUnits, e6, e4, e5] at hz
    have q := Nat.le_of_mul_le_mul_left hz (Nat.two_pow_pos 52)
    have r : (2 : Nat) ^ n2 < 2 ^ n5 := Nat.pow_lt_pow_right (by decide) lt
    exact absurd q (Nat.not_le.mpr r)
  | fin t c q =>
    rw [hd] at hs hf
    have : t = false := hs
    subst this
    exact ⟨c, q, rfl, hf⟩
theorem own_congr {A B A' B' : Nat} (hB : 0 < B) (hB' : 0 < B') (h : A * B' = A' * B) : own_R A B = own_R A' B' := by
  unfold own_R
  refine roundRatio_congr hB hB' ?_
  simp [h]
theorem own_near {A B c N : Nat} {q : Int} (hN : (0 - b64.qmin).toNat = N) (hB : 0 < B) (h : own_R A B = .fin false c q) {c' : Nat} {q' : Int} (hc : c' < 2 ^ 53) (hq : b64.qmin ≤ q') : (((A * 2 ^ N : Nat) : Int) - (inUnits c q b64.qmin : Int) * B).natAbs ≤ (((A * 2 ^ N : Nat) : Int) - (inUnits c' q' b64.qmin : Int) * B).natAbs := by
  have := roundRatio_nearest (f := b64) good_b64 (e0 := b64.qmin) hB h (c' := c') (q' := q') hc hq (Int.le_refl _) (by decide)
  unfold distance at this
  have e : inUnits A 0 b64.qmin = A * 2 ^ N := by unfold inUnits; rw [hN]
  rw [e] at this
  exact this
theorem own_mono {A B A' B' : Nat} (hB : 0 < B) (hB' : 0 < B') (h1 : A ≤ B) (h1' : A' ≤ B') (h : A * B' ≤ A' * B) : zmag b64 (own_R A B) ≤ zmag b64 (own_R A' B') := by
  obtain ⟨c, q, e1, f1⟩ := own_fin hB h1
  obtain ⟨d, r, e2, f2⟩ := own_fin hB' h1'
  obtain ⟨N, hN⟩ : ∃ N, (0 - b64.qmin).toNat = N := ⟨_, rfl⟩
  have e3 : (b64.qmin - b64.qmin).toNat = 0 := by decide
  have eU : ∀ X : Nat, inUnits X 0 b64.qmin = X * 2 ^ N := fun X => by unfold inUnits; rw [hN]
  rcases Nat.lt_or_ge (zmag b64 (own_R A' B')) (zmag b64 (own_R A B)) with lt | ge
  · exfalso
    have L := zmag_roundRatio_le (f := b64) good_b64 (s := false) (A := A) (B := B) (e := 0) (e0 := b64.qmin) (V := own_R A' B') hB (by rw [e2]; exact f2) (by rw [e2]; simp) (Int.le_refl _) (by decide)
    have G := zmag_roundRatio_ge (f := b64) good_b64 (s := false) (A := A') (B := B') (e := 0) (e0 := b64.qmin) (V := own_R A B) hB' (by rw [e1]; exact f1) (Int.le_refl _) (by decide)
    rw [e3, Nat.pow_zero, Nat.mul_one, eU] at L G
    have n1 := own_near hN hB e1 f2.1 f2.2.1
    have n2 := own_near hN hB' e2 f1.1 f1.2.1
    have e1' : roundRatio b64 false A B 0 = .fin false c q := e1
    have e2' : roundRatio b64 false A' B' 0 = .fin false d r := e2
    rw [e1, e2] at lt
    rw [e2, e1'] at L
    rw [e1, e2'] at G
    have za : zmag b64 (.fin false c q) = inUnits c q b64.qmin := rfl
    have zb : zmag b64 (.fin false d r) = inUnits d r b64.qmin := rfl
    rw [za, zb] at lt
    rw [za, zb] at L G
    have L' : ¬ A * 2 ^ N ≤ inUnits d r b64.qmin * B := fun z => by have := L z; omega
    have G' : ¬ inUnits c q b64.qmin * B' ≤ A' * 2 ^ N := fun z => by have := G z; omega
    generalize inUnits c q b64.qmin = a at *
    generalize inUnits d r b64.qmin = b at *
    have up := Nat.two_pow_pos N
    generalize 2 ^ N = U at *
    have k1 : A * U < a * B := by
      have s1 : A * U * B' ≤ A' * U * B := by
        calc A * U * B' = A * B' * U := by ac_rfl
          _ ≤ A' * B * U := Nat.mul_le_mul_right _ h
          _ = A' * U * B := by ac_rfl
      have s2 : A' * U * B < a * B' * B := Nat.mul_lt_mul_of_pos_right (Nat.lt_of_not_le G') hB
      have s3 : A * U * B' < a * B * B' := by
        calc A * U * B' ≤ A' * U * B := s1
          _ < a * B' * B := s2
          _ = a * B * B' := by ac_rfl
      exact Nat.lt_of_mul_lt_mul_right s3
    have k2 : b * B' < A' * U := by
      have s1 : A * U * B' ≤ A' * U * B := by
        calc A * U * B' = A * B' * U := by ac_rfl
          _ ≤ A' * B * U := Nat.mul_le_mul_right _ h
          _ = A' * U * B := by ac_rfl
      have s2 : b * B * B' < A * U * B' := Nat.mul_lt_mul_of_pos_right (Nat.lt_of_not_le L') hB'
      have s3 : b * B' * B < A' * U * B := by
        calc b * B' * B = b * B * B' := by ac_rfl
          _ < A * U * B' := s2
          _ ≤ A' * U * B := s1
      exact Nat.lt_of_mul_lt_mul_right s3
    have L2 := Nat.lt_of_not_le L'
    have G2 := Nat.lt_of_not_le G'
    have m1 : a * B + b * B ≤ 2 * (A * U) := by
      have := n1
      simp only [← Int.natCast_mul] at this
      omega
    have m2 : 2 * (A' * U) ≤ a * B' + b * B' := by
      have := n2
      simp only [← Int.natCast_mul] at this
      omega
    have m3 : 2 * (A' * U) * B ≤ 2 * (A * U) * B' := by
      calc 2 * (A' * U) * B ≤ (a * B' + b * B') * B := Nat.mul_le_mul_right _ m2
        _ = (a * B + b * B) * B' := by rw [Nat.add_mul, Nat.add_mul]; ac_rfl
        _ ≤ 2 * (A * U) * B' := Nat.mul_le_mul_right _ m1
    have m4 : A' * B ≤ A * B' := by
      have : (A' * B) * (2 * U) ≤ (A * B') * (2 * U) := by
        calc (A' * B) * (2 * U) = 2 * (A' * U) * B := by ac_rfl
          _ ≤ 2 * (A * U) * B' := m3
          _ = (A * B') * (2 * U) := by ac_rfl
      exact Nat.le_of_mul_le_mul_right this (by omega)
    have e := own_congr hB hB' (Nat.le_antisymm h m4)
    rw [e1, e2] at e
    cases e
    omega
  · exact ge
set_option maxRecDepth 65536 in
/-- two ratios that lie more than 2^-52 apart round to two numbers -/
theorem own_strict {A B A' B' : Nat} (hB : 0 < B) (hB' : 0 < B') (h1 : A ≤ B) (h1' : A' ≤ B') (h : A * B' * 2 ^ 52 + B * B' < A' * B * 2 ^ 52) : zmag b64 (own_R A B) < zmag b64 (own_R A' B') := by
  obtain ⟨c, q, e1, f1⟩ := own_fin hB h1
  obtain ⟨d, r, e2, f2⟩ := own_fin hB' h1'
  obtain ⟨M, hM⟩ : ∃ M, (-53 - b64.qmin).toNat = M := ⟨_, rfl⟩
  have hN : (0 - b64.qmin).toNat = 53 + M := by rw [← hM]; decide
  have up := Nat.two_pow_pos M
  have key : ∀ {X Y a : Nat} {u : Int}, 0 < Y → X ≤ Y → own_R X Y = .fin false a u → inUnits a u b64.qmin * Y ≤ X * 2 ^ (53 + M) + Y * 2 ^ M ∧ X * 2 ^ (53 + M) ≤ inUnits a u b64.qmin * Y + Y * 2 ^ M := by
    intro X Y a u hY hXY e
    have hk : (X * 2 ^ 53 - 1) / Y < 2 ^ 53 := by
      rw [Nat.div_lt_iff_lt_mul hY]
      have : X * 2 ^ 53 ≤ Y * 2 ^ 53 := Nat.mul_le_mul_right _ hXY
      have p53 := Nat.two_pow_pos 53
      rw [Nat.mul_comm (2 ^ 53) Y]
      have : 0 < Y * 2 ^ 53 := Nat.mul_pos hY p53
      omega
    have n := own_near hN hY e (c' := (X * 2 ^ 53 - 1) / Y) (q' := -53) hk (by decide)
    have eI : inUnits ((X * 2 ^ 53 - 1) / Y) (-53) b64.qmin = ((X * 2 ^ 53 - 1) / Y) * 2 ^ M := by unfold inUnits; rw [hM]
    rw [eI] at n
    have dm := Nat.div_add_mod (X * 2 ^ 53 - 1) Y
    have ml := Nat.mod_lt (X * 2 ^ 53 - 1) hY
    generalize (X * 2 ^ 53 - 1) / Y = k at *
    generalize (X * 2 ^ 53 - 1) % Y = m at *
    generalize inUnits a u b64.qmin = z at *
    have b1 : k * Y ≤ X * 2 ^ 53 := by rw [Nat.mul_comm]; omega
    have b2 : X * 2 ^ 53 ≤ k * Y + Y := by rw [Nat.mul_comm k]; omega
    have c1 : k * 2 ^ M * Y ≤ X * 2 ^ (53 + M) := by
      calc k * 2 ^ M * Y = k * Y * 2 ^ M := by ac_rfl
        _ ≤ X * 2 ^ 53 * 2 ^ M := Nat.mul_le_mul_right _ b1
        _ = X * 2 ^ (53 + M) := by rw [Nat.pow_add, Nat.mul_assoc]
    have c2 : X * 2 ^ (53 + M) ≤ k * 2 ^ M * Y + Y * 2 ^ M := by
      calc X * 2 ^ (53 + M) = X * 2 ^ 53 * 2 ^ M := by rw [Nat.pow_add, Nat.mul_assoc]
        _ ≤ (k * Y + Y) * 2 ^ M := Nat.mul_le_mul_right _ b2
        _ = k * 2 ^ M * Y + Y * 2 ^ M := by rw [Nat.add_mul]; ac_rfl
    simp only [← Int.natCast_mul] at n
    generalize X * 2 ^ (53 + M) = P at *
    generalize k * 2 ^ M * Y = Q at *
    generalize Y * 2 ^ M = W at *
    generalize z * Y = V at *
    omega
  have ka := (key hB h1 e1).1
  have kb := (key hB' h1' e2).2
  rw [e1, e2]
  have za : zmag b64 (.fin false c q) = inUnits c q b64.qmin := rfl
  have zb : zmag b64 (.fin false d r) = inUnits d r b64.qmin := rfl
  rw [za, zb]
  generalize inUnits c q b64.qmin = a at *
  generalize inUnits d r b64.qmin = b at *
  rcases Nat.lt_or_ge a b with lt | ge
  · exact lt
  · exfalso
    have s1 : A' * 2 ^ (53 + M) * B ≤ (a * B' + B' * 2 ^ M) * B := by
      refine Nat.mul_le_mul_right _ (Nat.le_trans kb ?_)
      exact Nat.add_le_add_right (Nat.mul_le_mul_right _ ge) _
    have s2 : a * B * B' ≤ (A * 2 ^ (53 + M) + B * 2 ^ M) * B' := Nat.mul_le_mul_right _ ka
    have s3 : (A * B' * 2 ^ 52 + B * B') * (2 * 2 ^ M) < A' * B * 2 ^ 52 * (2 * 2 ^ M) := Nat.mul_lt_mul_of_pos_right h (by omega)
    have p53 : (2 : Nat) ^ (53 + M) = 2 ^ 52 * (2 * 2 ^ M) := by rw [Nat.pow_add, ← Nat.mul_assoc]
    have t1 : A' * 2 ^ (53 + M) * B = A' * B * 2 ^ 52 * (2 * 2 ^ M) := by rw [p53]; ac_rfl
    have t2 : (a * B' + B' * 2 ^ M) * B = a * B * B' + B * B' * 2 ^ M := by rw [Nat.add_mul]; ac_rfl
    have t3 : (A * 2 ^ (53 + M) + B * 2 ^ M) * B' = A * B' * 2 ^ 52 * (2 * 2 ^ M) + B * B' * 2 ^ M := by rw [Nat.add_mul, p53]; ac_rfl
    have t4 : (A * B' * 2 ^ 52 + B * B') * (2 * 2 ^ M) = A * B' * 2 ^ 52 * (2 * 2 ^ M) + 2 * (B * B' * 2 ^ M) := by rw [Nat.add_mul]; ac_rfl
    rw [t1, t2] at s1
    rw [t3] at s2
    rw [t4] at s3
    exact absurd s3 (by
      have q : A' * B * 2 ^ 52 * (2 * 2 ^ M) ≤ A * B' * 2 ^ 52 * (2 * 2 ^ M) + B * B' * 2 ^ M + B * B' * 2 ^ M := Nat.le_trans s1 (Nat.add_le_add_right s2 _)
      rw [Nat.add_assoc, ← Nat.two_mul] at q
      exact Nat.not_lt.mpr q)
theorem own_cross {c d A B : Nat} {q r : Int} (h1 : c * 2 ^ q.toNat = A * 2 ^ (-q).toNat) (h2 : d * 2 ^ r.toNat = B * 2 ^ (-r).toNat) : c * B * 2 ^ (q - r - 0).toNat = A * d * 2 ^ (0 - (q - r)).toNat := by
  have a : c * B * 2 ^ (q.toNat + (-r).toNat) = A * d * 2 ^ (r.toNat + (-q).toNat) := by
    rw [Nat.pow_add, Nat.pow_add]
    calc c * B * (2 ^ q.toNat * 2 ^ (-r).toNat) = (c * 2 ^ q.toNat) * (B * 2 ^ (-r).toNat) := by ac_rfl
      _ = (A * 2 ^ (-q).toNat) * (d * 2 ^ r.toNat) := by rw [h1, h2]
      _ = A * d * (2 ^ r.toNat * 2 ^ (-q).toNat) := by ac_rfl
  obtain ⟨m, e1, e2⟩ : ∃ m, q.toNat + (-r).toNat = (q - r - 0).toNat + m ∧ r.toNat + (-q).toNat = (0 - (q - r)).toNat + m := ⟨q.toNat + (-r).toNat - (q - r - 0).toNat, by omega, by omega⟩
  rw [e1, e2, Nat.pow_add, Nat.pow_add, ← Nat.mul_assoc, ← Nat.mul_assoc] at a
  exact Nat.eq_of_mul_eq_mul_right (Nat.two_pow_pos m) a
theorem own_quo {A B : Nat} {x y : Datum} (hA : 0 < A) (hB : 0 < B) (hx : Whole (A : Int) x) (hy : Whole (B : Int) y) : quotient b64 x y = own_R A B := by
  cases x with
  | nan => exact hx.elim
  | inf t => exact hx.elim
  | fin s c q =>
    cases y with
    | nan => exact hy.elim
    | inf t => exact hy.elim
    | fin t d r =>
      have hs : s = false := by rw [whole_sign hx (by omega)]; exact decide_eq_false (by omega)
      have ht : t = false := by rw [whole_sign hy (by omega)]; exact decide_eq_false (by omega)
      have hd : d ≠ 0 := fun z => by have := (whole_zero hy).mp z; omega
      subst hs ht
      show (if d = 0 then (if c = 0 then Datum.nan else Datum.inf (false != false)) else roundRatio b64 (false != false) c d (q - r)) = roundRatio b64 false A B 0
      rw [if_neg hd]
      refine roundRatio_congr (by omega) hB ?_
      have n1 : c * 2 ^ q.toNat = (A : Int).natAbs * 2 ^ (-q).toNat := whole_natAbs hx
      have n2 : d * 2 ^ r.toNat = (B : Int).natAbs * 2 ^ (-r).toNat := whole_natAbs hy
      exact own_cross n1 n2
def own_fw (i m : Int32) : UInt64 := FP.ddiv (FP.l2d (((10 : Int64) * m.toInt64) - ((9 : Int64) * i.toInt64))) (FP.l2d ((10 : Int64) * m.toInt64))
theorem own_F_div (a b : UInt64) : val64 (FP.ddiv a b) = quotient b64 (val64 a) (val64 b) := val64_ddiv a b
theorem own_F_l2d {a : Int64} (h : a.toInt.natAbs ≤ 2 ^ 53) : Whole a.toInt (val64 (FP.l2d a)) := l2d_int h
theorem own_fwv {i m : Int32} {I M : Nat} (hi : i.toInt = I) (hm : m.toInt = M) (h1 : 1 ≤ I) (h2 : I ≤ M) : val64 (own_fw i m) = own_R (10 * M - 9 * I) (10 * M) := by
  have rm := rng32 m
  have e10 : (10 : Int64).toInt = 10 := rfl
  have e9 : (9 : Int64).toInt = 9 := rfl
  have m1 : ((10 : Int64) * m.toInt64).toInt = ((10 * M : Nat) : Int) := by
    rw [Int64.toInt_mul, Int32.toInt_toInt64, e10, hm]
    simp only [Int.bmod]
    omega
  have m2 : ((9 : Int64) * i.toInt64).toInt = ((9 * I : Nat) : Int) := by
    rw [Int64.toInt_mul, Int32.toInt_toInt64, e9, hi]
    simp only [Int.bmod]
    omega
  have m3 : (((10 : Int64) * m.toInt64) - ((9 : Int64) * i.toInt64)).toInt = ((10 * M - 9 * I : Nat) : Int) := by
    rw [Int64.toInt_sub, m1, m2]
    simp only [Int.bmod]
    omega
  have e53 : (2 : Nat) ^ 53 = 9007199254740992 := by decide
  have w1 := own_F_l2d (a := ((10 : Int64) * m.toInt64) - ((9 : Int64) * i.toInt64)) (by rw [m3, e53]; omega)
  have w2 := own_F_l2d (a := (10 : Int64) * m.toInt64) (by rw [m1, e53]; omega)
  rw [m3] at w1
  rw [m1] at w2
  unfold own_fw
  rw [own_F_div]
  exact own_quo (by omega) (by omega) w1 w2
theorem own_Rnn (A B : Nat) : own_R A B ≠ .nan := roundRatio_ne_nan _ _ _ _ _
theorem own_Rsg (A B : Nat) : sgn (own_R A B) = false := sgn_roundRatio _ _ _ _ _
theorem own_F_cmp {a b : UInt64} {A B A' B' : Nat} (ha : val64 a = own_R A B) (hb : val64 b = own_R A' B') : FP.dcmp a b = some (compare (zmag b64 (own_R A B) : Int) (zmag b64 (own_R A' B') : Int)) := by
  have q : FP.dcmp a b = some (compare (zval b64 (val64 a)) (zval b64 (val64 b))) := dcmp_zval (by rw [ha]; exact own_Rnn _ _) (by rw [hb]; exact own_Rnn _ _)
  rw [q, ha, hb]
  simp only [zval, own_Rsg, signed]
  rfl
theorem own_cL {x y : Nat} (h : x < y) (o : CmpOp) : cmpValue (some (compare (x : Int) (y : Int))) o = -1 := by
  have : compare (x : Int) (y : Int) = .lt := by simp only [compare, compareOfLessAndEq]; rw [if_pos (by omega)]
  rw [this]; rfl
theorem own_cG {x y : Nat} (h : y < x) (o : CmpOp) : cmpValue (some (compare (x : Int) (y : Int))) o = 1 := by
  have : compare (x : Int) (y : Int) = .gt := by simp only [compare, compareOfLessAndEq]; rw [if_neg (by omega), if_neg (by omega)]
  rw [this]; rfl
theorem own_cE {x y : Nat} (h : x = y) (o : CmpOp) : cmpValue (some (compare (x : Int) (y : Int))) o = 0 := by
  have : compare (x : Int) (y : Int) = .eq := by simp only [compare, compareOfLessAndEq]; rw [if_neg (by omega), if_pos (by omega)]
  rw [this]; rfl
theorem own_k01 : val64 (4591870180066957722 : UInt64) = own_R 1 10 := by decide +kernel
theorem own_k55 : val64 (4603129179135383962 : UInt64) = own_R 11 20 := by decide +kernel
theorem own_k73 : val64 (4604750475001237340 : UInt64) = own_R 73 100 := by decide +kernel
theorem own_k77 : val64 (4605155798967700685 : UInt64) = own_R 31 40 := by decide +kernel
theorem own_k1 : val64 FP.dconst1 = own_R 1 1 := by decide +kernel
def own_ok (i m : Int32) : Prop := ∃ I M : Nat, i.toInt = I ∧ m.toInt = M ∧ 1 ≤ I ∧ I ≤ M
theorem own_ok.nn {i m : Int32} (h : own_ok i m) : Jvm.Free.Fl.NoNaN64 (own_fw i m) := by
  obtain ⟨I, M, h1, h2, h3, h4⟩ := h
  exact Jvm.Free.Fl.val64_no.mpr (by rw [own_fwv h1 h2 h3 h4]; exact own_Rnn _ _)
theorem own_t37 {i m : Int32} (h : own_ok i m) : ¬ ((0 : Int32) < cmpValue (FP.dcmp (4591870180066957722 : UInt64) (own_fw i m)) .g) := by
  obtain ⟨I, M, h1, h2, h3, h4⟩ := h
  have le := own_mono (A := 1) (B := 10) (A' := 10 * M - 9 * I) (B' := 10 * M) (by decide) (by omega) (by decide) (by omega) (by omega)
  rw [own_F_cmp own_k01 (own_fwv h1 h2 h3 h4)]
  rcases Nat.lt_or_ge (zmag b64 (own_R 1 10)) (zmag b64 (own_R (10 * M - 9 * I) (10 * M))) with q | q
  · rw [own_cL q]; decide
  · rw [own_cE (Nat.le_antisymm le q)]; decide
theorem own_t44 {i m : Int32} (h : own_ok i m) : cmpValue (FP.dcmp (own_fw i m) FP.dconst1) .g < (0 : Int32) := by
  obtain ⟨I, M, h1, h2, h3, h4⟩ := h
  have rm := rng32 m
  have lt := own_strict (A := 10 * M - 9 * I) (B := 10 * M) (A' := 1) (B' := 1) (by omega) (by decide) (by omega) (by decide) (by
    have : (2 : Nat) ^ 52 = 4503599627370496 := by decide
    rw [this]; omega)
  rw [own_F_cmp (own_fwv h1 h2 h3 h4) own_k1, own_cL lt]; decide
theorem own_t71 {i m : Int32} (h : own_ok i m) (e : i = m) : cmpValue (FP.dcmp (own_fw i m) (4591870180066957722 : UInt64)) .l = (0 : Int32) := by
  subst e
  obtain ⟨I, M, h1, h2, h3, h4⟩ := h
  rw [h1] at h2
  have eIM : I = M := by omega
  subst eIM
  rw [own_F_cmp (own_fwv h1 h1 h3 h4) own_k01, own_cE]
  rw [own_congr (A := 10 * I - 9 * I) (B := 10 * I) (A' := 1) (B' := 10) (by omega) (by decide) (by omega)]
theorem own_t95 {i m : Int32} (h : own_ok i m) (e : ¬ (i = m)) : (0 : Int32) < cmpValue (FP.dcmp (own_fw i m) (4591870180066957722 : UInt64)) .l := by
  obtain ⟨I, M, h1, h2, h3, h4⟩ := h
  have rm := rng32 m
  have ne : I ≠ M := fun q => e (Int32.toInt_inj.mp (by omega))
  have lt := own_strict (A := 1) (B := 10) (A' := 10 * M - 9 * I) (B' := 10 * M) (by decide) (by omega) (by decide) (by omega) (by
    have : (2 : Nat) ^ 52 = 4503599627370496 := by decide
    rw [this]; omega)
  rw [own_F_cmp (own_fwv h1 h2 h3 h4) own_k01, own_cG lt]; decide
theorem own_ok_succ {i m : Int32} (h : own_ok i m) (e : ¬ (i = m)) : own_ok (i + 1) m := by
  obtain ⟨I, M, h1, h2, h3, h4⟩ := h
  have rm := rng32 m
  have ne : I ≠ M := fun q => e (Int32.toInt_inj.mp (by omega))
  refine ⟨I + 1, M, ?_, h2, by omega, by omega⟩
  have e1 : (1 : Int32).toInt = 1 := rfl
  rw [Int32.toInt_add, e1, h1]
  simp only [Int.bmod]
  omega
theorem own_t109 {i m : Int32} (h : own_ok i m) (e : ¬ (i = m)) : (0 : Int32) < cmpValue (FP.dcmp (own_fw i m) (own_fw (i + 1) m)) .l := by
  have h' := own_ok_succ h e
  obtain ⟨I, M, h1, h2, h3, h4⟩ := h
  obtain ⟨J, M', g1, g2, g3, g4⟩ := h'
  have rm := rng32 m
  have eM : M' = M := by omega
  subst eM
  have eJ : J = I + 1 := by
    have ne : I ≠ M' := fun q => e (Int32.toInt_inj.mp (by omega))
    have e1 : (1 : Int32).toInt = 1 := rfl
    rw [Int32.toInt_add, e1, h1] at g1
    simp only [Int.bmod] at g1
    omega
  subst eJ
  have lt := own_strict (A := 10 * M' - 9 * (I + 1)) (B := 10 * M') (A' := 10 * M' - 9 * I) (B' := 10 * M') (by omega) (by omega) (by omega) (by omega) (by
    have q : (10 * M' - 9 * I) = (10 * M' - 9 * (I + 1)) + 9 := by omega
    have p52 : (2 : Nat) ^ 52 = 4503599627370496 := by decide
    have hB : 10 * M' < 9 * 4503599627370496 := by omega
    have k := Nat.mul_lt_mul_of_pos_left hB (show 0 < 10 * M' by omega)
    rw [q, Nat.add_mul, Nat.add_mul, p52]
    refine Nat.add_lt_add_left ?_ _
    calc 10 * M' * (10 * M') < 10 * M' * (9 * 4503599627370496) := k
      _ = 9 * (10 * M') * 4503599627370496 := by ac_rfl)
  rw [own_F_cmp (own_fwv h1 h2 h3 h4) (own_fwv g1 g2 g3 g4), own_cG lt]; decide
theorem own_ok_m1 {i m : Int32} (h : own_ok i m) (e : m < (2147483647 : Int32)) : own_ok i (m + 1) := by
  obtain ⟨I, M, h1, h2, h3, h4⟩ := h
  refine ⟨I, M + 1, h1, ?_, h3, by omega⟩
  have e1 : (1 : Int32).toInt = 1 := rfl
  have e2 : (2147483647 : Int32).toInt = 2147483647 := rfl
  rw [Int32.lt_iff_toInt_lt, e2] at e
  rw [Int32.toInt_add, e1, h2]
  simp only [Int.bmod]
  omega
theorem own_t141 {i m : Int32} (h : own_ok i m) (e : m < (2147483647 : Int32)) : ¬ (cmpValue (FP.dcmp (own_fw i (m + 1)) (own_fw i m)) .l < (0 : Int32)) := by
  have h' := own_ok_m1 h e
  obtain ⟨I, M, h1, h2, h3, h4⟩ := h
  obtain ⟨J, M', g1, g2, g3, g4⟩ := h'
  have eJ : J = I := by omega
  subst eJ
  have eM : M' = M + 1 := by
    have e1 : (1 : Int32).toInt = 1 := rfl
    have e2 : (2147483647 : Int32).toInt = 2147483647 := rfl
    rw [Int32.lt_iff_toInt_lt, e2] at e
    rw [Int32.toInt_add, e1, h2] at g2
    simp only [Int.bmod] at g2
    omega
  subst eM
  have le := own_mono (A := 10 * M - 9 * J) (B := 10 * M) (A' := 10 * (M + 1) - 9 * J) (B' := 10 * (M + 1)) (by omega) (by omega) (by omega) (by omega) (by
    have q : 10 * M - 9 * J = 10 * M - 9 * J := rfl
    have x1 : (10 * M - 9 * J) * (10 * (M + 1)) + 9 * J * (10 * (M + 1)) = 10 * M * (10 * (M + 1)) := by rw [← Nat.add_mul, Nat.sub_add_cancel (by omega)]
    have x2 : (10 * (M + 1) - 9 * J) * (10 * M) + 9 * J * (10 * M) = 10 * (M + 1) * (10 * M) := by rw [← Nat.add_mul, Nat.sub_add_cancel (by omega)]
    have x3 : 10 * M * (10 * (M + 1)) = 10 * (M + 1) * (10 * M) := Nat.mul_comm _ _
    have x4 : 9 * J * (10 * M) ≤ 9 * J * (10 * (M + 1)) := Nat.mul_le_mul_left _ (by omega)
    omega)
  rw [own_F_cmp (own_fwv g1 g2 g3 g4) (own_fwv h1 h2 h3 h4)]
  rcases Nat.lt_or_ge (zmag b64 (own_R (10 * M - 9 * J) (10 * M))) (zmag b64 (own_R (10 * (M + 1) - 9 * J) (10 * (M + 1)))) with q | q
  · rw [own_cG q]; decide
  · rw [own_cE (Nat.le_antisymm q le)]; decide
theorem own_okI (I M : Nat) {i m : Int32} (h1 : i.toInt = I) (h2 : m.toInt = M) (h3 : 1 ≤ I) (h4 : I ≤ M) : own_ok i m := ⟨I, M, h1, h2, h3, h4⟩
/-- k * x for small products -/
theorem own_mulN {k x : Int32} {K X : Nat} (hk : k.toInt = K) (hx : x.toInt = X) (h : K * X < 2147483648) : (k * x).toInt = ((K * X : Nat) : Int) := by
  rw [Int32.toInt_mul, hk, hx, ← Int.natCast_mul]
  simp only [Int.bmod]
  omega
theorem own_kk (c : Int32) : ∃ K : Nat, ((2 : Int32) + (c &&& (7 : Int32))).toInt = K ∧ 2 ≤ K ∧ K ≤ 9 := by
  have q := c_and c 7 (by decide)
  have e2 : (2 : Int32).toInt = 2 := rfl
  have e7 : (7 : Int32).toInt = 7 := rfl
  rw [e7] at q
  refine ⟨((2 : Int32) + (c &&& (7 : Int32))).toInt.toNat, ?_, ?_, ?_⟩ <;> (rw [Int32.toInt_add, e2]; simp only [Int.bmod]; omega)
theorem own_km {k m : Int32} {K M : Nat} (hk : k.toInt = K) (hk2 : 2 ≤ K) (hm : m.toInt = M) (h : ¬ (((2147483647 : Int32) / k) < m)) : K * M < 2147483648 := by
  have e2 : (2147483647 : Int32).toInt = 2147483647 := rfl
  have q := (c_idiv 2147483647 k K hk (fun z => by rw [z] at hk; have : (-1 : Int32).toInt = -1 := rfl; omega)).1 (by rw [e2]; omega)
  rw [Int32.lt_iff_toInt_lt, q, e2, hm] at h
  have h' : M ≤ 2147483647 / K := by
    have : ((2147483647 / K : Nat) : Int) = (2147483647 : Int) / (K : Int) := by simp
    omega
  have := Nat.mul_le_mul_left K h'
  have := Nat.mul_div_le 2147483647 K
  omega
theorem own_okk {i m k : Int32} (h : own_ok i m) {K : Nat} (hk : k.toInt = K) (hk2 : 2 ≤ K) (hd : ¬ (((2147483647 : Int32) / k) < m)) : own_ok (k * i) (k * m) := by
  obtain ⟨I, M, h1, h2, h3, h4⟩ := h
  have b := own_km hk hk2 h2 hd
  have b2 : K * I ≤ K * M := Nat.mul_le_mul_left _ h4
  exact ⟨K * I, K * M, own_mulN hk h1 (by omega), own_mulN hk h2 b, Nat.mul_pos (by omega) h3, b2⟩
theorem own_t188 {i m k : Int32} (h : own_ok i m) {K : Nat} (hk : k.toInt = K) (hk2 : 2 ≤ K) (hd : ¬ (((2147483647 : Int32) / k) < m)) : cmpValue (FP.dcmp (own_fw (k * i) (k * m)) (own_fw i m)) .l = (0 : Int32) := by
  obtain ⟨I, M, h1, h2, h3, h4⟩ := h
  have b := own_km hk hk2 h2 hd
  have b2 : K * I ≤ K * M := Nat.mul_le_mul_left _ h4
  rw [own_F_cmp (own_fwv (own_mulN hk h1 (by omega)) (own_mulN hk h2 b) (Nat.mul_pos (by omega) h3) b2) (own_fwv h1 h2 h3 h4), own_cE]
  rw [own_congr (A' := 10 * M - 9 * I) (B' := 10 * M) (Nat.mul_pos (by decide) (Nat.mul_pos (by omega) (by omega))) (by omega)]
  have e1 : 10 * (K * M) - 9 * (K * I) = K * (10 * M - 9 * I) := by rw [Nat.mul_sub]; congr 1 <;> ac_rfl
  rw [e1]
  ac_rfl
theorem own_s (a : Int32) : ∃ S : Nat, ((1 : Int32) + ((a &&& (2147483647 : Int32)) % (214748364 : Int32))).toInt = S ∧ 1 ≤ S ∧ S ≤ 214748364 := by
  have h := c_irem (a &&& 2147483647) 214748364 214748364 rfl
  have h0 := (c_and a 2147483647 (by decide)).1
  have hh := h.1 h0
  have e1 : (1 : Int32).toInt = 1 := rfl
  refine ⟨((1 : Int32) + ((a &&& (2147483647 : Int32)) % (214748364 : Int32))).toInt.toNat, ?_, ?_, ?_⟩ <;> (rw [Int32.toInt_add, e1, hh]; simp only [Int.bmod]; omega)
theorem own_oks {s x y : Int32} {S X Y : Nat} (hs : s.toInt = S) (h1 : 1 ≤ S) (h2 : S ≤ 214748364) (hx : x.toInt = X) (hy : y.toInt = Y) (x1 : 1 ≤ X) (xy : X ≤ Y) (y10 : Y ≤ 10) : own_ok (s * x) (s * y) := by
  have b : S * Y ≤ 214748364 * 10 := Nat.mul_le_mul h2 y10
  have b2 : S * X ≤ S * Y := Nat.mul_le_mul_left _ xy
  exact ⟨S * X, S * Y, own_mulN hs hx (by omega), own_mulN hs hy (by omega), Nat.mul_pos (by omega) x1, b2⟩
theorem own_t308 {s x y : Int32} {S X Y P Q : Nat} {e : UInt64} (hs : s.toInt = S) (h1 : 1 ≤ S) (h2 : S ≤ 214748364) (hx : x.toInt = X) (hy : y.toInt = Y) (x1 : 1 ≤ X) (xy : X ≤ Y) (y10 : Y ≤ 10) (he : val64 e = own_R P Q) (hQ : 0 < Q) (hpq : (10 * Y - 9 * X) * Q = P * (10 * Y)) : cmpValue (FP.dcmp (own_fw (s * x) (s * y)) e) .l = (0 : Int32) := by
  have b : S * Y ≤ 214748364 * 10 := Nat.mul_le_mul h2 y10
  have b2 : S * X ≤ S * Y := Nat.mul_le_mul_left _ xy
  rw [own_F_cmp (own_fwv (own_mulN hs hx (by omega)) (own_mulN hs hy (by omega)) (Nat.mul_pos (by omega) x1) b2) he, own_cE]
  rw [own_congr (A' := P) (B' := Q) (Nat.mul_pos (by decide) (Nat.mul_pos (by omega) (by omega))) hQ]
  have e1 : 10 * (S * Y) - 9 * (S * X) = S * (10 * Y - 9 * X) := by rw [Nat.mul_sub]; congr 1 <;> ac_rfl
  rw [e1]
  calc S * (10 * Y - 9 * X) * Q = S * ((10 * Y - 9 * X) * Q) := by ac_rfl
    _ = S * (P * (10 * Y)) := by rw [hpq]
    _ = P * (10 * (S * Y)) := by ac_rfl
theorem own_im {b m : Int32} {M : Nat} (hm : m.toInt = M) (h : 1 ≤ M) : own_ok ((1 : Int32) + (((b.toInt64 &&& (2147483647 : Int64)) % m.toInt64).toInt32)) m := by
  have rm := rng32 m
  have q := (c_andSL b.toInt64 2147483647).2.2 (by decide)
  have e1 : (1 : Int32).toInt = 1 := rfl
  have md : ((b.toInt64 &&& (2147483647 : Int64)) % m.toInt64).toInt = (b.toInt64 &&& (2147483647 : Int64)).toInt % (M : Int) := by
    rw [Int64.toInt_mod, Int32.toInt_toInt64, hm]
    exact Int.tmod_eq_emod_of_nonneg q
  have lo := Int.emod_nonneg (b.toInt64 &&& (2147483647 : Int64)).toInt (show (M : Int) ≠ 0 by omega)
  have hi := Int.emod_lt_of_pos (b.toInt64 &&& (2147483647 : Int64)).toInt (show (0 : Int) < M by omega)
  have n32 : (((b.toInt64 &&& (2147483647 : Int64)) % m.toInt64).toInt32).toInt = (b.toInt64 &&& (2147483647 : Int64)).toInt % (M : Int) := by
    rw [Int64.toInt_toInt32, md]
    generalize (b.toInt64 &&& (2147483647 : Int64)).toInt % (M : Int) = z at *
    simp only [Int.bmod]
    omega
  have t : ((1 : Int32) + (((b.toInt64 &&& (2147483647 : Int64)) % m.toInt64).toInt32)).toInt = 1 + (b.toInt64 &&& (2147483647 : Int64)).toInt % (M : Int) := by
    rw [Int32.toInt_add, e1, n32]
    generalize (b.toInt64 &&& (2147483647 : Int64)).toInt % (M : Int) = z at *
    simp only [Int.bmod]
    omega
  refine ⟨(1 + (b.toInt64 &&& (2147483647 : Int64)).toInt % (M : Int)).toNat, M, ?_, hm, ?_, ?_⟩
  · rw [t]; omega
  · omega
  · omega
end Fl
theorem own_max (a : Int32) : ¬ ((1 : Int32) < (a &&& (2147483647 : Int32))) ∨ (1 : Int32) < (a &&& (2147483647 : Int32)) := by
  by_cases h : (1 : Int32) < (a &&& (2147483647 : Int32))
  · exact Or.inr h
  · exact Or.inl h
theorem own_M1 : ∃ M : Nat, (1 : Int32).toInt = M ∧ 1 ≤ M := ⟨1, rfl, by decide⟩
theorem own_M2 {x : Int32} (h : (1 : Int32) < x) : ∃ M : Nat, x.toInt = M ∧ 1 ≤ M := by
  have e1 : (1 : Int32).toInt = 1 := rfl
  rw [Int32.lt_iff_toInt_lt, e1] at h
  exact ⟨x.toInt.toNat, by omega, by omega⟩
theorem own_nzl {m : Int32} {M : Nat} (hm : m.toInt = M) (h : 1 ≤ M) : m.toInt64 ≠ 0 := fun q => by
  have := congrArg Int64.toInt q
  rw [Int32.toInt_toInt64, hm] at this
  have e0 : (0 : Int64).toInt = 0 := rfl
  omega
theorem own_nzk {k : Int32} {K : Nat} (hk : k.toInt = K) (h : 2 ≤ K) : k ≠ 0 := fun q => by
  rw [q] at hk
  have e0 : (0 : Int32).toInt = 0 := rfl
  omega

theorem own_d_jdk_29_m65_0 : decode jdk_29_method_65_code 0 = .ok (.iload_n 0, 1) := by decide +kernel
theorem own_d_jdk_29_m65_1 : decode jdk_29_method_65_code 1 = .ok (.iload_n 1, 1) := by decide +kernel
theorem own_d_jdk_29_m65_2 : decode jdk_29_method_65_code 2 = .ok (.if_icmp .lt 7, 3) := by decide +kernel
theorem own_d_jdk_29_m65_9 : decode jdk_29_method_65_code 9 = .ok (.iload_n 1, 1) := by decide +kernel
theorem own_d_jdk_29_m65_10 : decode jdk_29_method_65_code 10 = .ok (.ireturn, 1) := by decide +kernel
theorem own_d_jdk_29_m65_5 : decode jdk_29_method_65_code 5 = .ok (.iload_n 0, 1) := by decide +kernel
theorem own_d_jdk_29_m65_6 : decode jdk_29_method_65_code 6 = .ok (.goto 4, 3) := by decide +kernel
theorem own_pn0 : plainName "com/example/eager_query/eagerquery/retrieval/WeightedWords" = true := by first | (simp [plainName, overriddenIn]; done) | decide +kernel
theorem own_d_prog_36_m3_0 : decode prog_36_method_3_code 0 = .ok (.ldc2_w 17, 3) := by decide +kernel
theorem own_d_prog_36_m3_3 : decode prog_36_method_3_code 3 = .ok (.iload_n 1, 1) := by decide +kernel
theorem own_d_prog_36_m3_4 : decode prog_36_method_3_code 4 = .ok (.i2l, 1) := by decide +kernel
theorem own_d_prog_36_m3_5 : decode prog_36_method_3_code 5 = .ok (.lmul, 1) := by decide +kernel
theorem own_d_prog_36_m3_6 : decode prog_36_method_3_code 6 = .ok (.lstore_n 2, 1) := by decide +kernel
theorem own_d_prog_36_m3_7 : decode prog_36_method_3_code 7 = .ok (.lload_n 2, 1) := by decide +kernel
theorem own_d_prog_36_m3_8 : decode prog_36_method_3_code 8 = .ok (.ldc2_w 51, 3) := by decide +kernel
theorem own_d_prog_36_m3_11 : decode prog_36_method_3_code 11 = .ok (.iload_n 0, 1) := by decide +kernel
theorem own_d_prog_36_m3_12 : decode prog_36_method_3_code 12 = .ok (.i2l, 1) := by decide +kernel
theorem own_d_prog_36_m3_13 : decode prog_36_method_3_code 13 = .ok (.lmul, 1) := by decide +kernel
theorem own_d_prog_36_m3_14 : decode prog_36_method_3_code 14 = .ok (.lsub, 1) := by decide +kernel
theorem own_d_prog_36_m3_15 : decode prog_36_method_3_code 15 = .ok (.l2d, 1) := by decide +kernel
theorem own_d_prog_36_m3_16 : decode prog_36_method_3_code 16 = .ok (.lload_n 2, 1) := by decide +kernel
theorem own_d_prog_36_m3_17 : decode prog_36_method_3_code 17 = .ok (.l2d, 1) := by decide +kernel
theorem own_d_prog_36_m3_18 : decode prog_36_method_3_code 18 = .ok (.ddiv, 1) := by decide +kernel
theorem own_d_prog_36_m3_19 : decode prog_36_method_3_code 19 = .ok (.dreturn, 1) := by decide +kernel
theorem own_pd0 : parseMethodDescriptor "(II)D" = some ⟨[.int, .int], some .double⟩ := by decide +kernel
theorem own_pn1 : plainName "com/example/eager_query/eagerquery/retrieval/WeightedWordsFallingWeightPinLaw" = true := by first | (simp [plainName, overriddenIn]; done) | decide +kernel
theorem own_pd1 : parseMethodDescriptor "(II)I" = some ⟨[.int, .int], some .int⟩ := by decide +kernel
def own_Qmamax (Z : State) (va : Int32) (vb : Int32) (h0 : Heap) (n0 : Nat) (v : Option Value) (h : Heap) (L : List Loc) : Prop := (v = some (.int va) ∧ Fr n0 L ∧ Keep h0 h [] ∧ (¬ (va < vb))) ∨ (v = some (.int vb) ∧ Fr n0 L ∧ Keep h0 h [] ∧ (va < vb))
theorem own_ef_mamax (m : MethodId) (va : Int32) (vb : Int32)  : entryFrame m #[(.int va), (.int vb)] 2 = mkF m 0 #[.val (.int va), .val (.int vb)] [] := by first | (simp [entryFrame, mkF, argsToLocals, Value.category]; done) | rfl
set_option maxRecDepth 65536 in
set_option maxHeartbeats 40000000 in
theorem own_rmmamax (l : Launch) (Z : State) (a0 : Array Value) (hw : ∀ d ∈ tables_1, d.before a0 Z = true) (hst : own_St Z) (ws : List Jvm.Cond) (va : Int32) (vb : Int32) (h0 : Heap) (n0 : Nat) (X00 : Old Z n0 h0)  :
    MetFree l (⟨"java/lang/Math", "max", "(II)I"⟩ : MethodName) (head1 (Jvm.Cond.code (⟨"java/lang/Math", "max", "(II)I"⟩ : MethodName) jdk_29_method_65_code 2 (Option.some Jvm.ClassFile.FieldType.int) :: ws) ({ frames := 0, cells := 0, slots := 0, locals := 0 } : Room)) (fun a U => a = #[(.int va), (.int vb)] ∧ Z.Warmed39 U.vm ∧ U.heap = h0) (fun _ _ _ _ _ => True) (fun _ U o U' => ∃ v L, o = .returned v ∧ own_Qmamax Z va vb h0 n0 v U'.heap L ∧ FrameEnd U o U' L ({ frames := 0, cells := 0, slots := 0, locals := 0 } : Room).cells ({ frames := 0, cells := 0, slots := 0, locals := 0 } : Room).slots) := by
  refine MetFree.of_bodySF (Jvm.Free.JP.mathPlain rfl (by decide +kernel)) hisR ?_
  intro p e s m args below meth c s₁ Bd hml0 hP hK
  obtain ⟨rfl, hZ, hh⟩ := hP
  have hx := Bd.exec
  have hby := Bd.bytes
  have hret := Bd.returns
  have hlk : meth.locks = false := BodyLoose.notSynchronized Bd
  have hml : c.maxLocals = 2 := hml0
  have hown : s.vm.findClass "java/lang/Math" = some m.cls := findClass_of_methodNamed Bd.named
  have hnm := (name_of_methodNamed Bd.named Bd.method).1
  have X0 : Stand p l e ({ frames := 0, cells := 0, slots := 0, locals := 0 } : Room) s m #[(.int va), (.int vb)] below meth c s₁ [] 0 0 := Stand.of_body Bd
  have e0 : s₁.heap = h0 := by rw [← hh, Bd.state]; rfl
  have N0 := Fr.nil n0
  have KK0 : Keep h0 h0 [] := Keep.refl h0 _
  refine own_start (own_Qmamax Z va vb h0 n0) ?_
  refine own_to (V := s₁.setTop (mkF m 0 #[.val (.int va), .val (.int vb)] [])) ?_ (fun t k => castTop (own_ef_mamax m va vb ) k)
  obtain _u := id hst
  refine own_to (V := s₁.setTop (mkF m 2 #[.val (.int va), .val (.int vb)] [(.int vb), (.int va)])) ?_ fun t k => (by
    refine XS.iloadN X0.here hx rfl (hb hby own_d_jdk_29_m65_0) rfl ?_
    refine XS.iloadN X0.here hx rfl (hb hby own_d_jdk_29_m65_1) rfl ?_
    exact k)
  by_cases hc2_101 : va < vb
  · skip
    refine own_to (V := s₁.setTop (mkF m 10 #[.val (.int va), .val (.int vb)] [(.int vb)])) ?_ fun t k => (by
      refine XS.icmpYes X0.here hx rfl (pc0 := 2) (pc' := 9) rfl (hb hby own_d_jdk_29_m65_2) rfl (tlt (hc2_101 : va < vb)).1 (by decide) (by decide) ?_
      refine XS.iloadN X0.here hx rfl (hb hby own_d_jdk_29_m65_9) rfl ?_
      exact k)
    exact own_retI X0 hx hret hlk (hb hby own_d_jdk_29_m65_10) (by rw [e0]; exact (Or.inr (⟨rfl, N0, KK0, hc2_101⟩))) (by decide) (by decide)
  · skip
    refine own_to (V := s₁.setTop (mkF m 10 #[.val (.int va), .val (.int vb)] [(.int va)])) ?_ fun t k => (by
      refine XS.icmpNo X0.here hx rfl (hb hby own_d_jdk_29_m65_2) rfl (flt (hc2_101 : ¬ (va < vb))).1 ?_
      refine XS.iloadN X0.here hx rfl (hb hby own_d_jdk_29_m65_5) rfl ?_
      refine XS.goto X0.here hx rfl (pc0 := 6) (pc' := 10) rfl (hb hby own_d_jdk_29_m65_6) (by decide) (by decide) ?_
      exact k)
    exact own_retI X0 hx hret hlk (hb hby own_d_jdk_29_m65_10) (by rw [e0]; exact (Or.inl ⟨rfl, N0, KK0, hc2_101⟩)) (by decide) (by decide)
def own_Qfw (Z : State) (vi : Int32) (vm : Int32) (h0 : Heap) (n0 : Nat) (v : Option Value) (h : Heap) (L : List Loc) : Prop := (v = some (.double (own_fw vi vm)) ∧ Fr n0 L ∧ Keep h0 h [])
theorem own_ef_fw (m : MethodId) (vi : Int32) (vm : Int32)  : entryFrame m #[(.int vi), (.int vm)] 4 = mkF m 0 #[.val (.int vi), .val (.int vm), .unset, .unset] [] := by first | (simp [entryFrame, mkF, argsToLocals, Value.category]; done) | rfl
set_option maxRecDepth 65536 in
set_option maxHeartbeats 40000000 in
theorem own_rmfw (l : Launch) (Z : State) (a0 : Array Value) (hw : ∀ d ∈ tables_1, d.before a0 Z = true) (hst : own_St Z) (ws : List Jvm.Cond) (vi : Int32) (vm : Int32) (h0 : Heap) (n0 : Nat) (X00 : Old Z n0 h0) (hO : own_ok vi vm) :
    MetFree l (⟨"com/example/eager_query/eagerquery/retrieval/WeightedWords", "fallingWeight", "(II)D"⟩ : MethodName) (head1 (Jvm.Cond.code (⟨"com/example/eager_query/eagerquery/retrieval/WeightedWords", "fallingWeight", "(II)D"⟩ : MethodName) prog_36_method_3_code 4 (Option.some Jvm.ClassFile.FieldType.double) :: ws) ({ frames := 0, cells := 0, slots := 0, locals := 0 } : Room)) (fun a U => a = #[(.int vi), (.int vm)] ∧ Z.Warmed39 U.vm ∧ U.heap = h0) (fun _ _ _ _ _ => True) (fun _ U o U' => ∃ v L, o = .returned v ∧ own_Qfw Z vi vm h0 n0 v U'.heap L ∧ FrameEnd U o U' L ({ frames := 0, cells := 0, slots := 0, locals := 0 } : Room).cells ({ frames := 0, cells := 0, slots := 0, locals := 0 } : Room).slots) := by
  refine MetFree.of_bodySF (plainFor_of_name own_pn0) hisR ?_
  intro p e s m args below meth c s₁ Bd hml0 hP hK
  obtain ⟨rfl, hZ, hh⟩ := hP
  have hx := Bd.exec
  have hby := Bd.bytes
  have hret := Bd.returns
  have hlk : meth.locks = false := BodyLoose.notSynchronized Bd
  have hml : c.maxLocals = 4 := hml0
  have hown : s.vm.findClass "com/example/eager_query/eagerquery/retrieval/WeightedWords" = some m.cls := findClass_of_methodNamed Bd.named
  have hnm := (name_of_methodNamed Bd.named Bd.method).1
  have X0 : Stand p l e ({ frames := 0, cells := 0, slots := 0, locals := 0 } : Room) s m #[(.int vi), (.int vm)] below meth c s₁ [] 0 0 := Stand.of_body Bd
  have e0 : s₁.heap = h0 := by rw [← hh, Bd.state]; rfl
  have N0 := Fr.nil n0
  have KK0 : Keep h0 h0 [] := Keep.refl h0 _
  refine own_start (own_Qfw Z vi vm h0 n0) ?_
  refine own_to (V := s₁.setTop (mkF m 0 #[.val (.int vi), .val (.int vm), .unset, .unset] [])) ?_ (fun t k => castTop (own_ef_fw m vi vm ) k)
  obtain _u := id hst
  refine own_to (V := s₁.setTop (mkF m 3 #[.val (.int vi), .val (.int vm), .unset, .unset] [(.long (10 : Int64))])) ?_ (fun t k => X0.ldc2Long hx hown (mvT hZ (hw _ (List.mem_of_getElem? (i := 10) rfl))) (g := (mkF m 0 #[.val (.int vi), .val (.int vm), .unset, .unset] [])) rfl (hb hby own_d_prog_36_m3_0) t k)
  obtain ⟨x101, hx101⟩ : ∃ z : Int64, z = ((10 : Int64) * (vm.toInt64)) := ⟨_, rfl⟩
  refine own_to (V := s₁.setTop (mkF m 7 #[.val (.int vi), .val (.int vm), .val (.long x101), .second] [])) ?_ fun t k => (by
    first | rw [hx101] at k | skip
    refine XS.iloadN X0.here hx rfl (hb hby own_d_prog_36_m3_3) rfl ?_
    refine XS.i2l X0.here hx rfl (hb hby own_d_prog_36_m3_4) rfl ?_
    refine XS.lmul X0.here hx rfl (hb hby own_d_prog_36_m3_5) rfl ?_
    refine XS.lstoreN X0.here hx rfl (hb hby own_d_prog_36_m3_6) rfl (l' := #[.val (.int vi), .val (.int vm), .val (.long ((10 : Int64) * (vm.toInt64))), .second]) rfl ?_
    exact k)
  refine own_to (V := s₁.setTop (mkF m 8 #[.val (.int vi), .val (.int vm), .val (.long x101), .second] [(.long x101)])) ?_ fun t k => (by
    refine XS.lloadN X0.here hx rfl (hb hby own_d_prog_36_m3_7) rfl ?_
    exact k)
  refine own_to (V := s₁.setTop (mkF m 11 #[.val (.int vi), .val (.int vm), .val (.long x101), .second] [(.long (9 : Int64)), (.long x101)])) ?_ (fun t k => X0.ldc2Long hx hown (mvT hZ (hw _ (List.mem_of_getElem? (i := 11) rfl))) (g := (mkF m 8 #[.val (.int vi), .val (.int vm), .val (.long x101), .second] [(.long x101)])) rfl (hb hby own_d_prog_36_m3_8) t k)
  have hnn : Jvm.Free.Fl.NoNaN64 (FP.ddiv (FP.l2d (x101 - ((9 : Int64) * (vi.toInt64)))) (FP.l2d x101)) := by rw [hx101]; exact hO.nn
  refine own_to (V := s₁.setTop (mkF m 19 #[.val (.int vi), .val (.int vm), .val (.long x101), .second] [(.double (FP.ddiv (FP.l2d (x101 - ((9 : Int64) * (vi.toInt64)))) (FP.l2d x101)))])) ?_ fun t k => (by
    refine XS.iloadN X0.here hx rfl (hb hby own_d_prog_36_m3_11) rfl ?_
    refine XS.i2l X0.here hx rfl (hb hby own_d_prog_36_m3_12) rfl ?_
    refine XS.lmul X0.here hx rfl (hb hby own_d_prog_36_m3_13) rfl ?_
    refine XS.lsub X0.here hx rfl (hb hby own_d_prog_36_m3_14) rfl ?_
    refine XS.l2dS X0.here hx rfl (hb hby own_d_prog_36_m3_15) rfl rfl ?_
    refine XS.lloadN X0.here hx rfl (hb hby own_d_prog_36_m3_16) rfl ?_
    refine XS.l2dS X0.here hx rfl (hb hby own_d_prog_36_m3_17) rfl rfl ?_
    refine XS.ddivS X0.here hx rfl (hb hby own_d_prog_36_m3_18) rfl hnn rfl ?_
    exact k)
  exact own_retD X0 hx hret hlk (hb hby own_d_prog_36_m3_19) (by rw [e0]; exact (⟨(by rw [hx101]; rfl), N0, KK0⟩)) (by decide) (by decide)
def own_Qlaw (Z : State) (p0 : Int32) (p1 : Int32) (p2 : Int32) (h0 : Heap) (n0 : Nat) (v : Option Value) (h : Heap) (L : List Loc) : Prop := (v = some (.int (1 : Int32)) ∧ Fr n0 L ∧ Keep h0 h [])
set_option maxRecDepth 65536 in
set_option maxHeartbeats 40000000 in
theorem own_sgl3 (l : Launch) (Z : State) (a0 : Array Value) (hw : ∀ d ∈ tables_1, d.before a0 Z = true) (hst : own_St Z) (p0 : Int32) (p1 : Int32) (p2 : Int32) (h0 : Heap) (n0 : Nat) (vm : Int32) (vi : Int32) (wd : UInt64) (vk : Int32)
    {p : Program} {e : Env} {s : State} {m : MethodId} {args : Array Value} {below : List Frame} {meth : Method} {c : Code} (hx : p.tables.exec = Jvm.exec) (hby : c.code = code) (hret : meth.sig.returnType = ret) (hlk : meth.locks = false) (hml : c.maxLocals = 15) (hnm : meth.name = "law") (hZ : Z.Warmed39 s.vm) (hown : s.vm.findClass "com/example/eager_query/eagerquery/retrieval/WeightedWordsFallingWeightPinLaw" = some m.cls)
    {T0 : State} {locs : List Loc} {h : Heap} (X0 : Stand p l e room_1 s m args below meth c T0 locs 0 0) (e0 : T0.heap = h) (N0 : Fr n0 locs) (Xo0 : Old Z n0 h) (KK0 : Keep h0 h [])  :
    own_Go p e below (own_Post s (own_Qlaw Z p0 p1 p2 h0 n0) room_1.cells room_1.slots) (T0.setTop (mkF m 198 #[.val (.int p0), .val (.int p1), .val (.int p2), .val (.int vm), .val (.int vi), .val (.double wd), .second, .val (.int (1 : Int32)), .val (.int vk), .unset, .unset, .unset, .unset, .unset, .unset] [])) := by
  obtain _u := id hst
  refine own_to (V := T0.setTop (mkF m 200 #[.val (.int p0), .val (.int p1), .val (.int p2), .val (.int vm), .val (.int vi), .val (.double wd), .second, .val (.int (1 : Int32)), .val (.int vk), .unset, .unset, .unset, .unset, .unset, .unset] [(.int p0), (.int (1 : Int32))])) ?_ fun t k => (by
    refine XS.iconst X0.here hx rfl (hb hby at_198) ?_
    refine XS.iloadN X0.here hx rfl (hb hby at_199) rfl ?_
    exact k)
  refine own_to (V := T0.setTop (mkF m 202 #[.val (.int p0), .val (.int p1), .val (.int p2), .val (.int vm), .val (.int vi), .val (.double wd), .second, .val (.int (1 : Int32)), .val (.int vk), .unset, .unset, .unset, .unset, .unset, .unset] [(.int (2147483647 : Int32)), (.int p0), (.int (1 : Int32))])) ?_ (fun t k => X0.ldcInt hx hown (mvT hZ (hw _ (List.mem_of_getElem? (i := 0) rfl))) (g := (mkF m 200 #[.val (.int p0), .val (.int p1), .val (.int p2), .val (.int vm), .val (.int vi), .val (.double wd), .second, .val (.int (1 : Int32)), .val (.int vk), .unset, .unset, .unset, .unset, .unset, .unset] [(.int p0), (.int (1 : Int32))])) rfl (hb hby at_200) t k)
  refine own_to (V := T0.setTop (mkF m 203 #[.val (.int p0), .val (.int p1), .val (.int p2), .val (.int vm), .val (.int vi), .val (.double wd), .second, .val (.int (1 : Int32)), .val (.int vk), .unset, .unset, .unset, .unset, .unset, .unset] [(.int (p0 &&& (2147483647 : Int32))), (.int (1 : Int32))])) ?_ fun t k => (by
    refine XS.iand X0.here hx rfl (hb hby at_202) rfl ?_
    exact k)
  refine own_to (V := T0.setTop (mkF m 205 #[.val (.int p0), .val (.int p1), .val (.int p2), .val (.int vm), .val (.int vi), .val (.double wd), .second, .val (.int (1 : Int32)), .val (.int vk), .unset, .unset, .unset, .unset, .unset, .unset] [(.int (214748364 : Int32)), (.int (p0 &&& (2147483647 : Int32))), (.int (1 : Int32))])) ?_ (fun t k => X0.ldcInt hx hown (mvT hZ (hw _ (List.mem_of_getElem? (i := 13) rfl))) (g := (mkF m 203 #[.val (.int p0), .val (.int p1), .val (.int p2), .val (.int vm), .val (.int vi), .val (.double wd), .second, .val (.int (1 : Int32)), .val (.int vk), .unset, .unset, .unset, .unset, .unset, .unset] [(.int (p0 &&& (2147483647 : Int32))), (.int (1 : Int32))])) rfl (hb hby at_203) t k)
  obtain ⟨x101, hx101⟩ : ∃ z : Int32, z = ((1 : Int32) + ((p0 &&& (2147483647 : Int32)) % (214748364 : Int32))) := ⟨_, rfl⟩
  refine own_to (V := T0.setTop (mkF m 209 #[.val (.int p0), .val (.int p1), .val (.int p2), .val (.int vm), .val (.int vi), .val (.double wd), .second, .val (.int (1 : Int32)), .val (.int vk), .val (.int x101), .unset, .unset, .unset, .unset, .unset] [])) ?_ fun t k => (by
    first | rw [hx101] at k | skip
    refine own_irem X0.here hx rfl (hb hby at_205) rfl (by decide) ?_
    refine XS.iadd X0.here hx rfl (hb hby at_206) rfl ?_
    refine XS.istore X0.here hx rfl (hb hby at_207) rfl (l' := #[.val (.int p0), .val (.int p1), .val (.int p2), .val (.int vm), .val (.int vi), .val (.double wd), .second, .val (.int (1 : Int32)), .val (.int vk), .val (.int ((1 : Int32) + ((p0 &&& (2147483647 : Int32)) % (214748364 : Int32)))), .unset, .unset, .unset, .unset, .unset]) rfl ?_
    exact k)
  obtain ⟨nS, hS1, hS2, hS3⟩ : ∃ S : Nat, x101.toInt = S ∧ 1 ≤ S ∧ S ≤ 214748364 := by rw [hx101]; exact own_s _
  obtain ⟨x102, hx102⟩ : ∃ z : Int32, z = (((p2.toUInt32 >>> ((3 : Int32) &&& 31).toUInt32).toInt32) &&& (3 : Int32)) := ⟨_, rfl⟩
  refine own_to (V := T0.setTop (mkF m 216 #[.val (.int p0), .val (.int p1), .val (.int p2), .val (.int vm), .val (.int vi), .val (.double wd), .second, .val (.int (1 : Int32)), .val (.int vk), .val (.int x101), .val (.int x102), .unset, .unset, .unset, .unset] [])) ?_ fun t k => (by
    first | rw [hx102] at k | skip
    refine XS.iloadN X0.here hx rfl (hb hby at_209) rfl ?_
    refine XS.iconst X0.here hx rfl (hb hby at_210) ?_
    refine XS.iushr X0.here hx rfl (hb hby at_211) rfl ?_
    refine XS.iconst X0.here hx rfl (hb hby at_212) ?_
    refine XS.iand X0.here hx rfl (hb hby at_213) rfl ?_
    refine XS.istore X0.here hx rfl (hb hby at_214) rfl (l' := #[.val (.int p0), .val (.int p1), .val (.int p2), .val (.int vm), .val (.int vi), .val (.double wd), .second, .val (.int (1 : Int32)), .val (.int vk), .val (.int x101), .val (.int (((p2.toUInt32 >>> ((3 : Int32) &&& 31).toUInt32).toInt32) &&& (3 : Int32))), .unset, .unset, .unset, .unset]) rfl ?_
    exact k)
  refine own_to (V := T0.setTop (mkF m 218 #[.val (.int p0), .val (.int p1), .val (.int p2), .val (.int vm), .val (.int vi), .val (.double wd), .second, .val (.int (1 : Int32)), .val (.int vk), .val (.int x101), .val (.int x102), .unset, .unset, .unset, .unset] [(.int x102)])) ?_ fun t k => (by
    refine XS.iload X0.here hx rfl (hb hby at_216) rfl ?_
    exact k)
  by_cases hc218_103 : x102 = (0 : Int32)
  · skip
    refine own_to (V := T0.setTop (mkF m 227 #[.val (.int p0), .val (.int p1), .val (.int p2), .val (.int vm), .val (.int vi), .val (.double wd), .second, .val (.int (1 : Int32)), .val (.int vk), .val (.int x101), .val (.int x102), .val (.int (1 : Int32)), .val (.int (1 : Int32)), .unset, .unset] [])) ?_ fun t k => (by
      refine XS.ifNo X0.here hx rfl (hb hby at_218) rfl ((if0 _ _).trans (teq (hc218_103 : x102 = (0 : Int32))).2) ?_
      refine XS.iconst X0.here hx rfl (hb hby at_221) ?_
      refine XS.istore X0.here hx rfl (hb hby at_222) rfl (l' := #[.val (.int p0), .val (.int p1), .val (.int p2), .val (.int vm), .val (.int vi), .val (.double wd), .second, .val (.int (1 : Int32)), .val (.int vk), .val (.int x101), .val (.int x102), .val (.int (1 : Int32)), .unset, .unset, .unset]) rfl ?_
      refine XS.iconst X0.here hx rfl (hb hby at_224) ?_
      refine XS.istore X0.here hx rfl (hb hby at_225) rfl (l' := #[.val (.int p0), .val (.int p1), .val (.int p2), .val (.int vm), .val (.int vi), .val (.double wd), .second, .val (.int (1 : Int32)), .val (.int vk), .val (.int x101), .val (.int x102), .val (.int (1 : Int32)), .val (.int (1 : Int32)), .unset, .unset]) rfl ?_
      exact k)
    refine own_to (V := T0.setTop (mkF m 230 #[.val (.int p0), .val (.int p1), .val (.int p2), .val (.int vm), .val (.int vi), .val (.double wd), .second, .val (.int (1 : Int32)), .val (.int vk), .val (.int x101), .val (.int x102), .val (.int (1 : Int32)), .val (.int (1 : Int32)), .unset, .unset] [(.double (4591870180066957722 : UInt64))])) ?_ (fun t k => X0.ldc2DoubleC hx hown (mvT hZ (hw _ (List.mem_of_getElem? (i := 12) rfl))) (g := (mkF m 227 #[.val (.int p0), .val (.int p1), .val (.int p2), .val (.int vm), .val (.int vi), .val (.double wd), .second, .val (.int (1 : Int32)), .val (.int vk), .val (.int x101), .val (.int x102), .val (.int (1 : Int32)), .val (.int (1 : Int32)), .unset, .unset] [])) rfl (hb hby at_227) t k)
    have hok104 : own_ok (x101 * (1 : Int32)) (x101 * (1 : Int32)) := own_oks hS1 hS2 hS3 (X := 1) (Y := 1) rfl rfl (by decide) (by decide) (by decide)
    refine own_to (V := T0.setTop (mkF m 302 #[.val (.int p0), .val (.int p1), .val (.int p2), .val (.int vm), .val (.int vi), .val (.double wd), .second, .val (.int (1 : Int32)), .val (.int vk), .val (.int x101), .val (.int x102), .val (.int (1 : Int32)), .val (.int (1 : Int32)), .val (.double (4591870180066957722 : UInt64)), .second] [(.int (x101 * (1 : Int32))), (.int (x101 * (1 : Int32)))])) ?_ fun t k => (by
      refine XS.dstore X0.here hx rfl (hb hby at_230) rfl (l' := #[.val (.int p0), .val (.int p1), .val (.int p2), .val (.int vm), .val (.int vi), .val (.double wd), .second, .val (.int (1 : Int32)), .val (.int vk), .val (.int x101), .val (.int x102), .val (.int (1 : Int32)), .val (.int (1 : Int32)), .val (.double (4591870180066957722 : UInt64)), .second]) rfl ?_
      refine XS.goto X0.here hx rfl (pc0 := 232) (pc' := 287) rfl (hb hby at_232) (by decide) (by decide) ?_
      refine XS.iload X0.here hx rfl (hb hby at_287) rfl ?_
      refine XS.ifNo X0.here hx rfl (hb hby at_289) rfl ((if0 _ _).trans (feq ((by decide) : ¬ ((1 : Int32) = (0 : Int32)))).1) ?_
      refine XS.iload X0.here hx rfl (hb hby at_292) rfl ?_
      refine XS.iload X0.here hx rfl (hb hby at_294) rfl ?_
      refine XS.imul X0.here hx rfl (hb hby at_296) rfl ?_
      refine XS.iload X0.here hx rfl (hb hby at_297) rfl ?_
      refine XS.iload X0.here hx rfl (hb hby at_299) rfl ?_
      refine XS.imul X0.here hx rfl (hb hby at_301) rfl ?_
      exact k)
    obtain ⟨_, _, ⟨T105, L105, k105, n105⟩, -, X105, ⟨Lc105, hQ105, l105, y105, z105⟩, st105⟩ := Jvm.LawKit.callS X0 hx (y := (⟨"com/example/eager_query/eagerquery/retrieval/WeightedWords", "fallingWeight", "(II)D"⟩ : MethodName)) hown (mvT hZ (hw _ (List.mem_of_getElem? (i := 6) rfl))) (mvT hZ (hw _ (List.mem_of_getElem? (i := 7) rfl))) (mvT hZ (hw _ (List.mem_of_getElem? (i := 8) rfl))) (mvT hZ (hw _ (List.mem_of_getElem? (i := 9) rfl))) (by decide) (backOf (W := 0) (own_rmfw l Z a0 hw hst [] (x101 * (1 : Int32)) (x101 * (1 : Int32)) h n0 Xo0 hok104) hZ (hw _ (List.mem_of_getElem? (i := 9) rfl)) (hw _ (List.mem_of_getElem? (i := 8) rfl)) (by decide) (by decide)) (g := (mkF m 302 #[.val (.int p0), .val (.int p1), .val (.int p2), .val (.int vm), .val (.int vi), .val (.double wd), .second, .val (.int (1 : Int32)), .val (.int vk), .val (.int x101), .val (.int x102), .val (.int (1 : Int32)), .val (.int (1 : Int32)), .val (.double (4591870180066957722 : UInt64)), .second] [(.int (x101 * (1 : Int32))), (.int (x101 * (1 : Int32)))])) rfl (by rw [hml]; rfl) (argsL := [(.int (x101 * (1 : Int32))), (.int (x101 * (1 : Int32)))]) (rest := []) (lenOf own_pd0 rfl) rfl (by show 2 * 0 + _ ≤ _; exact Nat.le_of_eq rfl) (hb hby at_302) (fun _ _ => ⟨rfl, e0, (by decide : 0 + 0 ≤ _), (by decide : 0 + 0 ≤ _)⟩)
    dsimp only [Pt.U, Pt.locs, Pt.cells, Pt.slots] at X105 l105 y105 z105 st105 hQ105
    subst l105 y105 z105
    obtain ⟨hv105, N105q, K105⟩ := hQ105
    subst hv105
    obtain ⟨h105, e105⟩ : ∃ z, T105.heap = z := ⟨_, rfl⟩
    rw [e105] at K105
    have Xo105 : Old Z n0 h105 := Xo0.keep K105 all0
    have KK105 : Keep h0 h105 [] := KK0.trans K105 all0
    have N105 := Fr.app N0 N105q
    refine own_to (V := T105.setTop (mkF m 305 #[.val (.int p0), .val (.int p1), .val (.int p2), .val (.int vm), .val (.int vi), .val (.double wd), .second, .val (.int (1 : Int32)), .val (.int vk), .val (.int x101), .val (.int x102), .val (.int (1 : Int32)), .val (.int (1 : Int32)), .val (.double (4591870180066957722 : UInt64)), .second] [(.double (own_fw (x101 * (1 : Int32)) (x101 * (1 : Int32))))])) ?_ st105
    refine own_to (V := T105.setTop (mkF m 320 #[.val (.int p0), .val (.int p1), .val (.int p2), .val (.int vm), .val (.int vi), .val (.double wd), .second, .val (.int (1 : Int32)), .val (.int vk), .val (.int x101), .val (.int x102), .val (.int (1 : Int32)), .val (.int (1 : Int32)), .val (.double (4591870180066957722 : UInt64)), .second] [(.int (1 : Int32))])) ?_ fun t k => (by
      refine XS.dload X105.here hx rfl (hb hby at_305) rfl ?_
      refine XS.dcmpS X105.here hx rfl (hb hby at_307) rfl rfl ?_
      refine XS.ifNo X105.here hx rfl (hb hby at_308) rfl ((if0 _ _).trans (teq ((own_t308 hS1 hS2 hS3 (X := 1) (Y := 1) (P := 1) (Q := 10) rfl rfl (by decide) (by decide) (by decide) own_k01 (by decide) (by decide)) : (cmpValue (FP.dcmp (own_fw (x101 * (1 : Int32)) (x101 * (1 : Int32))) (4591870180066957722 : UInt64)) .l) = (0 : Int32))).2) ?_
      refine XS.iconst X105.here hx rfl (hb hby at_311) ?_
      refine XS.goto X105.here hx rfl (pc0 := 312) (pc' := 316) rfl (hb hby at_312) (by decide) (by decide) ?_
      refine XS.istore X105.here hx rfl (hb hby at_316) rfl (l' := #[.val (.int p0), .val (.int p1), .val (.int p2), .val (.int vm), .val (.int vi), .val (.double wd), .second, .val (.int (1 : Int32)), .val (.int vk), .val (.int x101), .val (.int x102), .val (.int (1 : Int32)), .val (.int (1 : Int32)), .val (.double (4591870180066957722 : UInt64)), .second]) rfl ?_
      refine XS.iload X105.here hx rfl (hb hby at_318) rfl ?_
      exact k)
    exact own_retN X105 hx (t := .boolean) (w := (1 : Int32)) hret (by decide) rfl hlk (hb hby at_320) (by rw [e105]; exact (⟨rfl, N105, KK105⟩)) (by decide) (by decide)
  · skip
    refine own_to (V := T0.setTop (mkF m 238 #[.val (.int p0), .val (.int p1), .val (.int p2), .val (.int vm), .val (.int vi), .val (.double wd), .second, .val (.int (1 : Int32)), .val (.int vk), .val (.int x101), .val (.int x102), .unset, .unset, .unset, .unset] [(.int (1 : Int32)), (.int x102)])) ?_ fun t k => (by
      refine XS.ifYes X0.here hx rfl (pc0 := 218) (pc' := 235) rfl (hb hby at_218) rfl ((if0 _ _).trans (feq (hc218_103 : ¬ (x102 = (0 : Int32)))).2) (by decide) (by decide) ?_
      refine XS.iload X0.here hx rfl (hb hby at_235) rfl ?_
      refine XS.iconst X0.here hx rfl (hb hby at_237) ?_
      exact k)
    by_cases hc238_106 : x102 = (1 : Int32)
    · skip
      refine own_to (V := T0.setTop (mkF m 247 #[.val (.int p0), .val (.int p1), .val (.int p2), .val (.int vm), .val (.int vi), .val (.double wd), .second, .val (.int (1 : Int32)), .val (.int vk), .val (.int x101), .val (.int x102), .val (.int (1 : Int32)), .val (.int (2 : Int32)), .unset, .unset] [])) ?_ fun t k => (by
        refine XS.icmpNo X0.here hx rfl (hb hby at_238) rfl (teq (hc238_106 : x102 = (1 : Int32))).2 ?_
        refine XS.iconst X0.here hx rfl (hb hby at_241) ?_
        refine XS.istore X0.here hx rfl (hb hby at_242) rfl (l' := #[.val (.int p0), .val (.int p1), .val (.int p2), .val (.int vm), .val (.int vi), .val (.double wd), .second, .val (.int (1 : Int32)), .val (.int vk), .val (.int x101), .val (.int x102), .val (.int (1 : Int32)), .unset, .unset, .unset]) rfl ?_
        refine XS.iconst X0.here hx rfl (hb hby at_244) ?_
        refine XS.istore X0.here hx rfl (hb hby at_245) rfl (l' := #[.val (.int p0), .val (.int p1), .val (.int p2), .val (.int vm), .val (.int vi), .val (.double wd), .second, .val (.int (1 : Int32)), .val (.int vk), .val (.int x101), .val (.int x102), .val (.int (1 : Int32)), .val (.int (2 : Int32)), .unset, .unset]) rfl ?_
        exact k)
      refine own_to (V := T0.setTop (mkF m 250 #[.val (.int p0), .val (.int p1), .val (.int p2), .val (.int vm), .val (.int vi), .val (.double wd), .second, .val (.int (1 : Int32)), .val (.int vk), .val (.int x101), .val (.int x102), .val (.int (1 : Int32)), .val (.int (2 : Int32)), .unset, .unset] [(.double (4603129179135383962 : UInt64))])) ?_ (fun t k => X0.ldc2DoubleC hx hown (mvT hZ (hw _ (List.mem_of_getElem? (i := 14) rfl))) (g := (mkF m 247 #[.val (.int p0), .val (.int p1), .val (.int p2), .val (.int vm), .val (.int vi), .val (.double wd), .second, .val (.int (1 : Int32)), .val (.int vk), .val (.int x101), .val (.int x102), .val (.int (1 : Int32)), .val (.int (2 : Int32)), .unset, .unset] [])) rfl (hb hby at_247) t k)
      have hok107 : own_ok (x101 * (1 : Int32)) (x101 * (2 : Int32)) := own_oks hS1 hS2 hS3 (X := 1) (Y := 2) rfl rfl (by decide) (by decide) (by decide)
      refine own_to (V := T0.setTop (mkF m 302 #[.val (.int p0), .val (.int p1), .val (.int p2), .val (.int vm), .val (.int vi), .val (.double wd), .second, .val (.int (1 : Int32)), .val (.int vk), .val (.int x101), .val (.int x102), .val (.int (1 : Int32)), .val (.int (2 : Int32)), .val (.double (4603129179135383962 : UInt64)), .second] [(.int (x101 * (2 : Int32))), (.int (x101 * (1 : Int32)))])) ?_ fun t k => (by
        refine XS.dstore X0.here hx rfl (hb hby at_250) rfl (l' := #[.val (.int p0), .val (.int p1), .val (.int p2), .val (.int vm), .val (.int vi), .val (.double wd), .second, .val (.int (1 : Int32)), .val (.int vk), .val (.int x101), .val (.int x102), .val (.int (1 : Int32)), .val (.int (2 : Int32)), .val (.double (4603129179135383962 : UInt64)), .second]) rfl ?_
        refine XS.goto X0.here hx rfl (pc0 := 252) (pc' := 287) rfl (hb hby at_252) (by decide) (by decide) ?_
        refine XS.iload X0.here hx rfl (hb hby at_287) rfl ?_
        refine XS.ifNo X0.here hx rfl (hb hby at_289) rfl ((if0 _ _).trans (feq ((by decide) : ¬ ((1 : Int32) = (0 : Int32)))).1) ?_
        refine XS.iload X0.here hx rfl (hb hby at_292) rfl ?_
        refine XS.iload X0.here hx rfl (hb hby at_294) rfl ?_
        refine XS.imul X0.here hx rfl (hb hby at_296) rfl ?_
        refine XS.iload X0.here hx rfl (hb hby at_297) rfl ?_
        refine XS.iload X0.here hx rfl (hb hby at_299) rfl ?_
        refine XS.imul X0.here hx rfl (hb hby at_301) rfl ?_
        exact k)
      obtain ⟨_, _, ⟨T108, L108, k108, n108⟩, -, X108, ⟨Lc108, hQ108, l108, y108, z108⟩, st108⟩ := Jvm.LawKit.callS X0 hx (y := (⟨"com/example/eager_query/eagerquery/retrieval/WeightedWords", "fallingWeight", "(II)D"⟩ : MethodName)) hown (mvT hZ (hw _ (List.mem_of_getElem? (i := 6) rfl))) (mvT hZ (hw _ (List.mem_of_getElem? (i := 7) rfl))) (mvT hZ (hw _ (List.mem_of_getElem? (i := 8) rfl))) (mvT hZ (hw _ (List.mem_of_getElem? (i := 9) rfl))) (by decide) (backOf (W := 0) (own_rmfw l Z a0 hw hst [] (x101 * (1 : Int32)) (x101 * (2 : Int32)) h n0 Xo0 hok107) hZ (hw _ (List.mem_of_getElem? (i := 9) rfl)) (hw _ (List.mem_of_getElem? (i := 8) rfl)) (by decide) (by decide)) (g := (mkF m 302 #[.val (.int p0), .val (.int p1), .val (.int p2), .val (.int vm), .val (.int vi), .val (.double wd), .second, .val (.int (1 : Int32)), .val (.int vk), .val (.int x101), .val (.int x102), .val (.int (1 : Int32)), .val (.int (2 : Int32)), .val (.double (4603129179135383962 : UInt64)), .second] [(.int (x101 * (2 : Int32))), (.int (x101 * (1 : Int32)))])) rfl (by rw [hml]; rfl) (argsL := [(.int (x101 * (1 : Int32))), (.int (x101 * (2 : Int32)))]) (rest := []) (lenOf own_pd0 rfl) rfl (by show 2 * 0 + _ ≤ _; exact Nat.le_of_eq rfl) (hb hby at_302) (fun _ _ => ⟨rfl, e0, (by decide : 0 + 0 ≤ _), (by decide : 0 + 0 ≤ _)⟩)
      dsimp only [Pt.U, Pt.locs, Pt.cells, Pt.slots] at X108 l108 y108 z108 st108 hQ108
      subst l108 y108 z108
      obtain ⟨hv108, N108q, K108⟩ := hQ108
      subst hv108
      obtain ⟨h108, e108⟩ : ∃ z, T108.heap = z := ⟨_, rfl⟩
      rw [e108] at K108
      have Xo108 : Old Z n0 h108 := Xo0.keep K108 all0
      have KK108 : Keep h0 h108 [] := KK0.trans K108 all0
      have N108 := Fr.app N0 N108q
      refine own_to (V := T108.setTop (mkF m 305 #[.val (.int p0), .val (.int p1), .val (.int p2), .val (.int vm), .val (.int vi), .val (.double wd), .second, .val (.int (1 : Int32)), .val (.int vk), .val (.int x101), .val (.int x102), .val (.int (1 : Int32)), .val (.int (2 : Int32)), .val (.double (4603129179135383962 : UInt64)), .second] [(.double (own_fw (x101 * (1 : Int32)) (x101 * (2 : Int32))))])) ?_ st108
      refine own_to (V := T108.setTop (mkF m 320 #[.val (.int p0), .val (.int p1), .val (.int p2), .val (.int vm), .val (.int vi), .val (.double wd), .second, .val (.int (1 : Int32)), .val (.int vk), .val (.int x101), .val (.int x102), .val (.int (1 : Int32)), .val (.int (2 : Int32)), .val (.double (4603129179135383962 : UInt64)), .second] [(.int (1 : Int32))])) ?_ fun t k => (by
        refine XS.dload X108.here hx rfl (hb hby at_305) rfl ?_
        refine XS.dcmpS X108.here hx rfl (hb hby at_307) rfl rfl ?_
        refine XS.ifNo X108.here hx rfl (hb hby at_308) rfl ((if0 _ _).trans (teq ((own_t308 hS1 hS2 hS3 (X := 1) (Y := 2) (P := 11) (Q := 20) rfl rfl (by decide) (by decide) (by decide) own_k55 (by decide) (by decide)) : (cmpValue (FP.dcmp (own_fw (x101 * (1 : Int32)) (x101 * (2 : Int32))) (4603129179135383962 : UInt64)) .l) = (0 : Int32))).2) ?_
        refine XS.iconst X108.here hx rfl (hb hby at_311) ?_
        refine XS.goto X108.here hx rfl (pc0 := 312) (pc' := 316) rfl (hb hby at_312) (by decide) (by decide) ?_
        refine XS.istore X108.here hx rfl (hb hby at_316) rfl (l' := #[.val (.int p0), .val (.int p1), .val (.int p2), .val (.int vm), .val (.int vi), .val (.double wd), .second, .val (.int (1 : Int32)), .val (.int vk), .val (.int x101), .val (.int x102), .val (.int (1 : Int32)), .val (.int (2 : Int32)), .val (.double (4603129179135383962 : UInt64)), .second]) rfl ?_
        refine XS.iload X108.here hx rfl (hb hby at_318) rfl ?_
        exact k)
      exact own_retN X108 hx (t := .boolean) (w := (1 : Int32)) hret (by decide) rfl hlk (hb hby at_320) (by rw [e108]; exact (⟨rfl, N108, KK108⟩)) (by decide) (by decide)
    · skip
      refine own_to (V := T0.setTop (mkF m 258 #[.val (.int p0), .val (.int p1), .val (.int p2), .val (.int vm), .val (.int vi), .val (.double wd), .second, .val (.int (1 : Int32)), .val (.int vk), .val (.int x101), .val (.int x102), .unset, .unset, .unset, .unset] [(.int (2 : Int32)), (.int x102)])) ?_ fun t k => (by
        refine XS.icmpYes X0.here hx rfl (pc0 := 238) (pc' := 255) rfl (hb hby at_238) rfl (feq (hc238_106 : ¬ (x102 = (1 : Int32)))).2 (by decide) (by decide) ?_
        refine XS.iload X0.here hx rfl (hb hby at_255) rfl ?_
        refine XS.iconst X0.here hx rfl (hb hby at_257) ?_
        exact k)
      by_cases hc258_109 : x102 = (2 : Int32)
      · skip
        refine own_to (V := T0.setTop (mkF m 267 #[.val (.int p0), .val (.int p1), .val (.int p2), .val (.int vm), .val (.int vi), .val (.double wd), .second, .val (.int (1 : Int32)), .val (.int vk), .val (.int x101), .val (.int x102), .val (.int (1 : Int32)), .val (.int (4 : Int32)), .unset, .unset] [])) ?_ fun t k => (by
          refine XS.icmpNo X0.here hx rfl (hb hby at_258) rfl (teq (hc258_109 : x102 = (2 : Int32))).2 ?_
          refine XS.iconst X0.here hx rfl (hb hby at_261) ?_
          refine XS.istore X0.here hx rfl (hb hby at_262) rfl (l' := #[.val (.int p0), .val (.int p1), .val (.int p2), .val (.int vm), .val (.int vi), .val (.double wd), .second, .val (.int (1 : Int32)), .val (.int vk), .val (.int x101), .val (.int x102), .val (.int (1 : Int32)), .unset, .unset, .unset]) rfl ?_
          refine XS.iconst X0.here hx rfl (hb hby at_264) ?_
          refine XS.istore X0.here hx rfl (hb hby at_265) rfl (l' := #[.val (.int p0), .val (.int p1), .val (.int p2), .val (.int vm), .val (.int vi), .val (.double wd), .second, .val (.int (1 : Int32)), .val (.int vk), .val (.int x101), .val (.int x102), .val (.int (1 : Int32)), .val (.int (4 : Int32)), .unset, .unset]) rfl ?_
          exact k)
        refine own_to (V := T0.setTop (mkF m 270 #[.val (.int p0), .val (.int p1), .val (.int p2), .val (.int vm), .val (.int vi), .val (.double wd), .second, .val (.int (1 : Int32)), .val (.int vk), .val (.int x101), .val (.int x102), .val (.int (1 : Int32)), .val (.int (4 : Int32)), .unset, .unset] [(.double (4605155798967700685 : UInt64))])) ?_ (fun t k => X0.ldc2DoubleC hx hown (mvT hZ (hw _ (List.mem_of_getElem? (i := 16) rfl))) (g := (mkF m 267 #[.val (.int p0), .val (.int p1), .val (.int p2), .val (.int vm), .val (.int vi), .val (.double wd), .second, .val (.int (1 : Int32)), .val (.int vk), .val (.int x101), .val (.int x102), .val (.int (1 : Int32)), .val (.int (4 : Int32)), .unset, .unset] [])) rfl (hb hby at_267) t k)
        have hok110 : own_ok (x101 * (1 : Int32)) (x101 * (4 : Int32)) := own_oks hS1 hS2 hS3 (X := 1) (Y := 4) rfl rfl (by decide) (by decide) (by decide)
        refine own_to (V := T0.setTop (mkF m 302 #[.val (.int p0), .val (.int p1), .val (.int p2), .val (.int vm), .val (.int vi), .val (.double wd), .second, .val (.int (1 : Int32)), .val (.int vk), .val (.int x101), .val (.int x102), .val (.int (1 : Int32)), .val (.int (4 : Int32)), .val (.double (4605155798967700685 : UInt64)), .second] [(.int (x101 * (4 : Int32))), (.int (x101 * (1 : Int32)))])) ?_ fun t k => (by
          refine XS.dstore X0.here hx rfl (hb hby at_270) rfl (l' := #[.val (.int p0), .val (.int p1), .val (.int p2), .val (.int vm), .val (.int vi), .val (.double wd), .second, .val (.int (1 : Int32)), .val (.int vk), .val (.int x101), .val (.int x102), .val (.int (1 : Int32)), .val (.int (4 : Int32)), .val (.double (4605155798967700685 : UInt64)), .second]) rfl ?_
          refine XS.goto X0.here hx rfl (pc0 := 272) (pc' := 287) rfl (hb hby at_272) (by decide) (by decide) ?_
          refine XS.iload X0.here hx rfl (hb hby at_287) rfl ?_
          refine XS.ifNo X0.here hx rfl (hb hby at_289) rfl ((if0 _ _).trans (feq ((by decide) : ¬ ((1 : Int32) = (0 : Int32)))).1) ?_
          refine XS.iload X0.here hx rfl (hb hby at_292) rfl ?_
          refine XS.iload X0.here hx rfl (hb hby at_294) rfl ?_
          refine XS.imul X0.here hx rfl (hb hby at_296) rfl ?_
          refine XS.iload X0.here hx rfl (hb hby at_297) rfl ?_
          refine XS.iload X0.here hx rfl (hb hby at_299) rfl ?_
          refine XS.imul X0.here hx rfl (hb hby at_301) rfl ?_
          exact k)
        obtain ⟨_, _, ⟨T111, L111, k111, n111⟩, -, X111, ⟨Lc111, hQ111, l111, y111, z111⟩, st111⟩ := Jvm.LawKit.callS X0 hx (y := (⟨"com/example/eager_query/eagerquery/retrieval/WeightedWords", "fallingWeight", "(II)D"⟩ : MethodName)) hown (mvT hZ (hw _ (List.mem_of_getElem? (i := 6) rfl))) (mvT hZ (hw _ (List.mem_of_getElem? (i := 7) rfl))) (mvT hZ (hw _ (List.mem_of_getElem? (i := 8) rfl))) (mvT hZ (hw _ (List.mem_of_getElem? (i := 9) rfl))) (by decide) (backOf (W := 0) (own_rmfw l Z a0 hw hst [] (x101 * (1 : Int32)) (x101 * (4 : Int32)) h n0 Xo0 hok110) hZ (hw _ (List.mem_of_getElem? (i := 9) rfl)) (hw _ (List.mem_of_getElem? (i := 8) rfl)) (by decide) (by decide)) (g := (mkF m 302 #[.val (.int p0), .val (.int p1), .val (.int p2), .val (.int vm), .val (.int vi), .val (.double wd), .second, .val (.int (1 : Int32)), .val (.int vk), .val (.int x101), .val (.int x102), .val (.int (1 : Int32)), .val (.int (4 : Int32)), .val (.double (4605155798967700685 : UInt64)), .second] [(.int (x101 * (4 : Int32))), (.int (x101 * (1 : Int32)))])) rfl (by rw [hml]; rfl) (argsL := [(.int (x101 * (1 : Int32))), (.int (x101 * (4 : Int32)))]) (rest := []) (lenOf own_pd0 rfl) rfl (by show 2 * 0 + _ ≤ _; exact Nat.le_of_eq rfl) (hb hby at_302) (fun _ _ => ⟨rfl, e0, (by decide : 0 + 0 ≤ _), (by decide : 0 + 0 ≤ _)⟩)
        dsimp only [Pt.U, Pt.locs, Pt.cells, Pt.slots] at X111 l111 y111 z111 st111 hQ111
        subst l111 y111 z111
        obtain ⟨hv111, N111q, K111⟩ := hQ111
        subst hv111
        obtain ⟨h111, e111⟩ : ∃ z, T111.heap = z := ⟨_, rfl⟩
        rw [e111] at K111
        have Xo111 : Old Z n0 h111 := Xo0.keep K111 all0
        have KK111 : Keep h0 h111 [] := KK0.trans K111 all0
        have N111 := Fr.app N0 N111q
        refine own_to (V := T111.setTop (mkF m 305 #[.val (.int p0), .val (.int p1), .val (.int p2), .val (.int vm), .val (.int vi), .val (.double wd), .second, .val (.int (1 : Int32)), .val (.int vk), .val (.int x101), .val (.int x102), .val (.int (1 : Int32)), .val (.int (4 : Int32)), .val (.double (4605155798967700685 : UInt64)), .second] [(.double (own_fw (x101 * (1 : Int32)) (x101 * (4 : Int32))))])) ?_ st111
        refine own_to (V := T111.setTop (mkF m 320 #[.val (.int p0), .val (.int p1), .val (.int p2), .val (.int vm), .val (.int vi), .val (.double wd), .second, .val (.int (1 : Int32)), .val (.int vk), .val (.int x101), .val (.int x102), .val (.int (1 : Int32)), .val (.int (4 : Int32)), .val (.double (4605155798967700685 : UInt64)), .second] [(.int (1 : Int32))])) ?_ fun t k => (by
          refine XS.dload X111.here hx rfl (hb hby at_305) rfl ?_
          refine XS.dcmpS X111.here hx rfl (hb hby at_307) rfl rfl ?_
          refine XS.ifNo X111.here hx rfl (hb hby at_308) rfl ((if0 _ _).trans (teq ((own_t308 hS1 hS2 hS3 (X := 1) (Y := 4) (P := 31) (Q := 40) rfl rfl (by decide) (by decide) (by decide) own_k77 (by decide) (by decide)) : (cmpValue (FP.dcmp (own_fw (x101 * (1 : Int32)) (x101 * (4 : Int32))) (4605155798967700685 : UInt64)) .l) = (0 : Int32))).2) ?_
          refine XS.iconst X111.here hx rfl (hb hby at_311) ?_
          refine XS.goto X111.here hx rfl (pc0 := 312) (pc' := 316) rfl (hb hby at_312) (by decide) (by decide) ?_
          refine XS.istore X111.here hx rfl (hb hby at_316) rfl (l' := #[.val (.int p0), .val (.int p1), .val (.int p2), .val (.int vm), .val (.int vi), .val (.double wd), .second, .val (.int (1 : Int32)), .val (.int vk), .val (.int x101), .val (.int x102), .val (.int (1 : Int32)), .val (.int (4 : Int32)), .val (.double (4605155798967700685 : UInt64)), .second]) rfl ?_
          refine XS.iload X111.here hx rfl (hb hby at_318) rfl ?_
          exact k)
        exact own_retN X111 hx (t := .boolean) (w := (1 : Int32)) hret (by decide) rfl hlk (hb hby at_320) (by rw [e111]; exact (⟨rfl, N111, KK111⟩)) (by decide) (by decide)
      · skip
        refine own_to (V := T0.setTop (mkF m 282 #[.val (.int p0), .val (.int p1), .val (.int p2), .val (.int vm), .val (.int vi), .val (.double wd), .second, .val (.int (1 : Int32)), .val (.int vk), .val (.int x101), .val (.int x102), .val (.int (3 : Int32)), .val (.int (10 : Int32)), .unset, .unset] [])) ?_ fun t k => (by
          refine XS.icmpYes X0.here hx rfl (pc0 := 258) (pc' := 275) rfl (hb hby at_258) rfl (feq (hc258_109 : ¬ (x102 = (2 : Int32)))).2 (by decide) (by decide) ?_
          refine XS.iconst X0.here hx rfl (hb hby at_275) ?_
          refine XS.istore X0.here hx rfl (hb hby at_276) rfl (l' := #[.val (.int p0), .val (.int p1), .val (.int p2), .val (.int vm), .val (.int vi), .val (.double wd), .second, .val (.int (1 : Int32)), .val (.int vk), .val (.int x101), .val (.int x102), .val (.int (3 : Int32)), .unset, .unset, .unset]) rfl ?_
          refine XS.bipush X0.here hx rfl (hb hby at_278) ?_
          refine XS.istore X0.here hx rfl (hb hby at_280) rfl (l' := #[.val (.int p0), .val (.int p1), .val (.int p2), .val (.int vm), .val (.int vi), .val (.double wd), .second, .val (.int (1 : Int32)), .val (.int vk), .val (.int x101), .val (.int x102), .val (.int (3 : Int32)), .val (.int (10 : Int32)), .unset, .unset]) rfl ?_
          exact k)
        refine own_to (V := T0.setTop (mkF m 285 #[.val (.int p0), .val (.int p1), .val (.int p2), .val (.int vm), .val (.int vi), .val (.double wd), .second, .val (.int (1 : Int32)), .val (.int vk), .val (.int x101), .val (.int x102), .val (.int (3 : Int32)), .val (.int (10 : Int32)), .unset, .unset] [(.double (4604750475001237340 : UInt64))])) ?_ (fun t k => X0.ldc2DoubleC hx hown (mvT hZ (hw _ (List.mem_of_getElem? (i := 15) rfl))) (g := (mkF m 282 #[.val (.int p0), .val (.int p1), .val (.int p2), .val (.int vm), .val (.int vi), .val (.double wd), .second, .val (.int (1 : Int32)), .val (.int vk), .val (.int x101), .val (.int x102), .val (.int (3 : Int32)), .val (.int (10 : Int32)), .unset, .unset] [])) rfl (hb hby at_282) t k)
        have hok112 : own_ok (x101 * (3 : Int32)) (x101 * (10 : Int32)) := own_oks hS1 hS2 hS3 (X := 3) (Y := 10) rfl rfl (by decide) (by decide) (by decide)
        refine own_to (V := T0.setTop (mkF m 302 #[.val (.int p0), .val (.int p1), .val (.int p2), .val (.int vm), .val (.int vi), .val (.double wd), .second, .val (.int (1 : Int32)), .val (.int vk), .val (.int x101), .val (.int x102), .val (.int (3 : Int32)), .val (.int (10 : Int32)), .val (.double (4604750475001237340 : UInt64)), .second] [(.int (x101 * (10 : Int32))), (.int (x101 * (3 : Int32)))])) ?_ fun t k => (by
          refine XS.dstore X0.here hx rfl (hb hby at_285) rfl (l' := #[.val (.int p0), .val (.int p1), .val (.int p2), .val (.int vm), .val (.int vi), .val (.double wd), .second, .val (.int (1 : Int32)), .val (.int vk), .val (.int x101), .val (.int x102), .val (.int (3 : Int32)), .val (.int (10 : Int32)), .val (.double (4604750475001237340 : UInt64)), .second]) rfl ?_
          refine XS.iload X0.here hx rfl (hb hby at_287) rfl ?_
          refine XS.ifNo X0.here hx rfl (hb hby at_289) rfl ((if0 _ _).trans (feq ((by decide) : ¬ ((1 : Int32) = (0 : Int32)))).1) ?_
          refine XS.iload X0.here hx rfl (hb hby at_292) rfl ?_
          refine XS.iload X0.here hx rfl (hb hby at_294) rfl ?_
          refine XS.imul X0.here hx rfl (hb hby at_296) rfl ?_
          refine XS.iload X0.here hx rfl (hb hby at_297) rfl ?_
          refine XS.iload X0.here hx rfl (hb hby at_299) rfl ?_
          refine XS.imul X0.here hx rfl (hb hby at_301) rfl ?_
          exact k)
        obtain ⟨_, _, ⟨T113, L113, k113, n113⟩, -, X113, ⟨Lc113, hQ113, l113, y113, z113⟩, st113⟩ := Jvm.LawKit.callS X0 hx (y := (⟨"com/example/eager_query/eagerquery/retrieval/WeightedWords", "fallingWeight", "(II)D"⟩ : MethodName)) hown (mvT hZ (hw _ (List.mem_of_getElem? (i := 6) rfl))) (mvT hZ (hw _ (List.mem_of_getElem? (i := 7) rfl))) (mvT hZ (hw _ (List.mem_of_getElem? (i := 8) rfl))) (mvT hZ (hw _ (List.mem_of_getElem? (i := 9) rfl))) (by decide) (backOf (W := 0) (own_rmfw l Z a0 hw hst [] (x101 * (3 : Int32)) (x101 * (10 : Int32)) h n0 Xo0 hok112) hZ (hw _ (List.mem_of_getElem? (i := 9) rfl)) (hw _ (List.mem_of_getElem? (i := 8) rfl)) (by decide) (by decide)) (g := (mkF m 302 #[.val (.int p0), .val (.int p1), .val (.int p2), .val (.int vm), .val (.int vi), .val (.double wd), .second, .val (.int (1 : Int32)), .val (.int vk), .val (.int x101), .val (.int x102), .val (.int (3 : Int32)), .val (.int (10 : Int32)), .val (.double (4604750475001237340 : UInt64)), .second] [(.int (x101 * (10 : Int32))), (.int (x101 * (3 : Int32)))])) rfl (by rw [hml]; rfl) (argsL := [(.int (x101 * (3 : Int32))), (.int (x101 * (10 : Int32)))]) (rest := []) (lenOf own_pd0 rfl) rfl (by show 2 * 0 + _ ≤ _; exact Nat.le_of_eq rfl) (hb hby at_302) (fun _ _ => ⟨rfl, e0, (by decide : 0 + 0 ≤ _), (by decide : 0 + 0 ≤ _)⟩)
        dsimp only [Pt.U, Pt.locs, Pt.cells, Pt.slots] at X113 l113 y113 z113 st113 hQ113
        subst l113 y113 z113
        obtain ⟨hv113, N113q, K113⟩ := hQ113
        subst hv113
        obtain ⟨h113, e113⟩ : ∃ z, T113.heap = z := ⟨_, rfl⟩
        rw [e113] at K113
        have Xo113 : Old Z n0 h113 := Xo0.keep K113 all0
        have KK113 : Keep h0 h113 [] := KK0.trans K113 all0
        have N113 := Fr.app N0 N113q
        refine own_to (V := T113.setTop (mkF m 305 #[.val (.int p0), .val (.int p1), .val (.int p2), .val (.int vm), .val (.int vi), .val (.double wd), .second, .val (.int (1 : Int32)), .val (.int vk), .val (.int x101), .val (.int x102), .val (.int (3 : Int32)), .val (.int (10 : Int32)), .val (.double (4604750475001237340 : UInt64)), .second] [(.double (own_fw (x101 * (3 : Int32)) (x101 * (10 : Int32))))])) ?_ st113
        refine own_to (V := T113.setTop (mkF m 320 #[.val (.int p0), .val (.int p1), .val (.int p2), .val (.int vm), .val (.int vi), .val (.double wd), .second, .val (.int (1 : Int32)), .val (.int vk), .val (.int x101), .val (.int x102), .val (.int (3 : Int32)), .val (.int (10 : Int32)), .val (.double (4604750475001237340 : UInt64)), .second] [(.int (1 : Int32))])) ?_ fun t k => (by
          refine XS.dload X113.here hx rfl (hb hby at_305) rfl ?_
          refine XS.dcmpS X113.here hx rfl (hb hby at_307) rfl rfl ?_
          refine XS.ifNo X113.here hx rfl (hb hby at_308) rfl ((if0 _ _).trans (teq ((own_t308 hS1 hS2 hS3 (X := 3) (Y := 10) (P := 73) (Q := 100) rfl rfl (by decide) (by decide) (by decide) own_k73 (by decide) (by decide)) : (cmpValue (FP.dcmp (own_fw (x101 * (3 : Int32)) (x101 * (10 : Int32))) (4604750475001237340 : UInt64)) .l) = (0 : Int32))).2) ?_
          refine XS.iconst X113.here hx rfl (hb hby at_311) ?_
          refine XS.goto X113.here hx rfl (pc0 := 312) (pc' := 316) rfl (hb hby at_312) (by decide) (by decide) ?_
          refine XS.istore X113.here hx rfl (hb hby at_316) rfl (l' := #[.val (.int p0), .val (.int p1), .val (.int p2), .val (.int vm), .val (.int vi), .val (.double wd), .second, .val (.int (1 : Int32)), .val (.int vk), .val (.int x101), .val (.int x102), .val (.int (3 : Int32)), .val (.int (10 : Int32)), .val (.double (4604750475001237340 : UInt64)), .second]) rfl ?_
          refine XS.iload X113.here hx rfl (hb hby at_318) rfl ?_
          exact k)
        exact own_retN X113 hx (t := .boolean) (w := (1 : Int32)) hret (by decide) rfl hlk (hb hby at_320) (by rw [e113]; exact (⟨rfl, N113, KK113⟩)) (by decide) (by decide)
set_option maxRecDepth 65536 in
set_option maxHeartbeats 40000000 in
theorem own_sgl2 (l : Launch) (Z : State) (a0 : Array Value) (hw : ∀ d ∈ tables_1, d.before a0 Z = true) (hst : own_St Z) (p0 : Int32) (p1 : Int32) (p2 : Int32) (h0 : Heap) (n0 : Nat) (vm : Int32) (vi : Int32)
    {p : Program} {e : Env} {s : State} {m : MethodId} {args : Array Value} {below : List Frame} {meth : Method} {c : Code} (hx : p.tables.exec = Jvm.exec) (hby : c.code = code) (hret : meth.sig.returnType = ret) (hlk : meth.locks = false) (hml : c.maxLocals = 15) (hnm : meth.name = "law") (hZ : Z.Warmed39 s.vm) (hown : s.vm.findClass "com/example/eager_query/eagerquery/retrieval/WeightedWordsFallingWeightPinLaw" = some m.cls)
    {T0 : State} {locs : List Loc} {h : Heap} (X0 : Stand p l e room_1 s m args below meth c T0 locs 0 0) (e0 : T0.heap = h) (N0 : Fr n0 locs) (Xo0 : Old Z n0 h) (KK0 : Keep h0 h []) (hO : own_ok vi vm) :
    own_Go p e below (own_Post s (own_Qlaw Z p0 p1 p2 h0 n0) room_1.cells room_1.slots) (T0.setTop (mkF m 119 #[.val (.int p0), .val (.int p1), .val (.int p2), .val (.int vm), .val (.int vi), .val (.double (own_fw vi vm)), .second, .val (.int (1 : Int32)), .unset, .unset, .unset, .unset, .unset, .unset, .unset] [])) := by
  obtain _u := id hst
  refine own_to (V := T0.setTop (mkF m 120 #[.val (.int p0), .val (.int p1), .val (.int p2), .val (.int vm), .val (.int vi), .val (.double (own_fw vi vm)), .second, .val (.int (1 : Int32)), .unset, .unset, .unset, .unset, .unset, .unset, .unset] [(.int vm)])) ?_ fun t k => (by
    refine XS.iloadN X0.here hx rfl (hb hby at_119) rfl ?_
    exact k)
  refine own_to (V := T0.setTop (mkF m 122 #[.val (.int p0), .val (.int p1), .val (.int p2), .val (.int vm), .val (.int vi), .val (.double (own_fw vi vm)), .second, .val (.int (1 : Int32)), .unset, .unset, .unset, .unset, .unset, .unset, .unset] [(.int (2147483647 : Int32)), (.int vm)])) ?_ (fun t k => X0.ldcInt hx hown (mvT hZ (hw _ (List.mem_of_getElem? (i := 0) rfl))) (g := (mkF m 120 #[.val (.int p0), .val (.int p1), .val (.int p2), .val (.int vm), .val (.int vi), .val (.double (own_fw vi vm)), .second, .val (.int (1 : Int32)), .unset, .unset, .unset, .unset, .unset, .unset, .unset] [(.int vm)])) rfl (hb hby at_120) t k)
  by_cases hc122_101 : vm < (2147483647 : Int32)
  · skip
    have hok102 : own_ok vi (vm + (1 : Int32)) := own_ok_m1 hO hc122_101
    refine own_to (V := T0.setTop (mkF m 135 #[.val (.int p0), .val (.int p1), .val (.int p2), .val (.int vm), .val (.int vi), .val (.double (own_fw vi vm)), .second, .val (.int (1 : Int32)), .unset, .unset, .unset, .unset, .unset, .unset, .unset] [(.int (vm + (1 : Int32))), (.int vi)])) ?_ fun t k => (by
      refine XS.icmpNo X0.here hx rfl (hb hby at_122) rfl (tlt (hc122_101 : vm < (2147483647 : Int32))).2.1 ?_
      refine XS.iload X0.here hx rfl (hb hby at_125) rfl ?_
      refine XS.ifNo X0.here hx rfl (hb hby at_127) rfl ((if0 _ _).trans (feq ((by decide) : ¬ ((1 : Int32) = (0 : Int32)))).1) ?_
      refine XS.iload X0.here hx rfl (hb hby at_130) rfl ?_
      refine XS.iloadN X0.here hx rfl (hb hby at_132) rfl ?_
      refine XS.iconst X0.here hx rfl (hb hby at_133) ?_
      refine XS.iadd X0.here hx rfl (hb hby at_134) rfl ?_
      exact k)
    obtain ⟨_, _, ⟨T103, L103, k103, n103⟩, -, X103, ⟨Lc103, hQ103, l103, y103, z103⟩, st103⟩ := Jvm.LawKit.callS X0 hx (y := (⟨"com/example/eager_query/eagerquery/retrieval/WeightedWords", "fallingWeight", "(II)D"⟩ : MethodName)) hown (mvT hZ (hw _ (List.mem_of_getElem? (i := 6) rfl))) (mvT hZ (hw _ (List.mem_of_getElem? (i := 7) rfl))) (mvT hZ (hw _ (List.mem_of_getElem? (i := 8) rfl))) (mvT hZ (hw _ (List.mem_of_getElem? (i := 9) rfl))) (by decide) (backOf (W := 0) (own_rmfw l Z a0 hw hst [] vi (vm + (1 : Int32)) h n0 Xo0 hok102) hZ (hw _ (List.mem_of_getElem? (i := 9) rfl)) (hw _ (List.mem_of_getElem? (i := 8) rfl)) (by decide) (by decide)) (g := (mkF m 135 #[.val (.int p0), .val (.int p1), .val (.int p2), .val (.int vm), .val (.int vi), .val (.double (own_fw vi vm)), .second, .val (.int (1 : Int32)), .unset, .unset, .unset, .unset, .unset, .unset, .unset] [(.int (vm + (1 : Int32))), (.int vi)])) rfl (by rw [hml]; rfl) (argsL := [(.int vi), (.int (vm + (1 : Int32)))]) (rest := []) (lenOf own_pd0 rfl) rfl (by show 2 * 0 + _ ≤ _; exact Nat.le_of_eq rfl) (hb hby at_135) (fun _ _ => ⟨rfl, e0, (by decide : 0 + 0 ≤ _), (by decide : 0 + 0 ≤ _)⟩)
    dsimp only [Pt.U, Pt.locs, Pt.cells, Pt.slots] at X103 l103 y103 z103 st103 hQ103
    subst l103 y103 z103
    obtain ⟨hv103, N103q, K103⟩ := hQ103
    subst hv103
    obtain ⟨h103, e103⟩ : ∃ z, T103.heap = z := ⟨_, rfl⟩
    rw [e103] at K103
    have Xo103 : Old Z n0 h103 := Xo0.keep K103 all0
    have KK103 : Keep h0 h103 [] := KK0.trans K103 all0
    have N103 := Fr.app N0 N103q
    refine own_to (V := T103.setTop (mkF m 138 #[.val (.int p0), .val (.int p1), .val (.int p2), .val (.int vm), .val (.int vi), .val (.double (own_fw vi vm)), .second, .val (.int (1 : Int32)), .unset, .unset, .unset, .unset, .unset, .unset, .unset] [(.double (own_fw vi (vm + (1 : Int32))))])) ?_ st103
    obtain ⟨x104, hx104⟩ : ∃ z : Int32, z = ((2 : Int32) + (p2 &&& (7 : Int32))) := ⟨_, rfl⟩
    refine own_to (V := T103.setTop (mkF m 159 #[.val (.int p0), .val (.int p1), .val (.int p2), .val (.int vm), .val (.int vi), .val (.double (own_fw vi vm)), .second, .val (.int (1 : Int32)), .val (.int x104), .unset, .unset, .unset, .unset, .unset, .unset] [])) ?_ fun t k => (by
      first | rw [hx104] at k | skip
      refine XS.dload X103.here hx rfl (hb hby at_138) rfl ?_
      refine XS.dcmpS X103.here hx rfl (hb hby at_140) rfl rfl ?_
      refine XS.ifNo X103.here hx rfl (hb hby at_141) rfl ((if0 _ _).trans (flt ((own_t141 hO hc122_101) : ¬ ((cmpValue (FP.dcmp (own_fw vi (vm + (1 : Int32))) (own_fw vi vm)) .l) < (0 : Int32)))).1) ?_
      refine XS.iconst X103.here hx rfl (hb hby at_144) ?_
      refine XS.goto X103.here hx rfl (pc0 := 145) (pc' := 149) rfl (hb hby at_145) (by decide) (by decide) ?_
      refine XS.istore X103.here hx rfl (hb hby at_149) rfl (l' := #[.val (.int p0), .val (.int p1), .val (.int p2), .val (.int vm), .val (.int vi), .val (.double (own_fw vi vm)), .second, .val (.int (1 : Int32)), .unset, .unset, .unset, .unset, .unset, .unset, .unset]) rfl ?_
      refine XS.iconst X103.here hx rfl (hb hby at_151) ?_
      refine XS.iloadN X103.here hx rfl (hb hby at_152) rfl ?_
      refine XS.bipush X103.here hx rfl (hb hby at_153) ?_
      refine XS.iand X103.here hx rfl (hb hby at_155) rfl ?_
      refine XS.iadd X103.here hx rfl (hb hby at_156) rfl ?_
      refine XS.istore X103.here hx rfl (hb hby at_157) rfl (l' := #[.val (.int p0), .val (.int p1), .val (.int p2), .val (.int vm), .val (.int vi), .val (.double (own_fw vi vm)), .second, .val (.int (1 : Int32)), .val (.int ((2 : Int32) + (p2 &&& (7 : Int32)))), .unset, .unset, .unset, .unset, .unset, .unset]) rfl ?_
      exact k)
    obtain ⟨nK, hK1, hK2, hK3⟩ : ∃ K : Nat, x104.toInt = K ∧ 2 ≤ K ∧ K ≤ 9 := by rw [hx104]; exact own_kk _
    refine own_to (V := T103.setTop (mkF m 160 #[.val (.int p0), .val (.int p1), .val (.int p2), .val (.int vm), .val (.int vi), .val (.double (own_fw vi vm)), .second, .val (.int (1 : Int32)), .val (.int x104), .unset, .unset, .unset, .unset, .unset, .unset] [(.int vm)])) ?_ fun t k => (by
      refine XS.iloadN X103.here hx rfl (hb hby at_159) rfl ?_
      exact k)
    refine own_to (V := T103.setTop (mkF m 162 #[.val (.int p0), .val (.int p1), .val (.int p2), .val (.int vm), .val (.int vi), .val (.double (own_fw vi vm)), .second, .val (.int (1 : Int32)), .val (.int x104), .unset, .unset, .unset, .unset, .unset, .unset] [(.int (2147483647 : Int32)), (.int vm)])) ?_ (fun t k => X103.ldcInt hx hown (mvT hZ (hw _ (List.mem_of_getElem? (i := 0) rfl))) (g := (mkF m 160 #[.val (.int p0), .val (.int p1), .val (.int p2), .val (.int vm), .val (.int vi), .val (.double (own_fw vi vm)), .second, .val (.int (1 : Int32)), .val (.int x104), .unset, .unset, .unset, .unset, .unset, .unset] [(.int vm)])) rfl (hb hby at_160) t k)
    refine own_to (V := T103.setTop (mkF m 165 #[.val (.int p0), .val (.int p1), .val (.int p2), .val (.int vm), .val (.int vi), .val (.double (own_fw vi vm)), .second, .val (.int (1 : Int32)), .val (.int x104), .unset, .unset, .unset, .unset, .unset, .unset] [(.int ((2147483647 : Int32) / x104)), (.int vm)])) ?_ fun t k => (by
      refine XS.iload X103.here hx rfl (hb hby at_162) rfl ?_
      refine XS.idiv X103.here hx rfl (hb hby at_164) rfl (own_nzk hK1 hK2) ?_
      exact k)
    by_cases hc165_105 : ((2147483647 : Int32) / x104) < vm
    · skip
      refine own_to (V := T103.setTop (mkF m 198 #[.val (.int p0), .val (.int p1), .val (.int p2), .val (.int vm), .val (.int vi), .val (.double (own_fw vi vm)), .second, .val (.int (1 : Int32)), .val (.int x104), .unset, .unset, .unset, .unset, .unset, .unset] [])) ?_ fun t k => (by
        refine XS.icmpYes X103.here hx rfl (pc0 := 165) (pc' := 198) rfl (hb hby at_165) rfl (tlt (hc165_105 : ((2147483647 : Int32) / x104) < vm)).2.2.1 (by decide) (by decide) ?_
        exact k)
      exact own_sgl3 l Z a0 hw hst p0 p1 p2 h0 n0 vm vi (own_fw vi vm) x104 hx hby hret hlk hml hnm hZ hown X103 e103 N103 Xo103 KK103 
    · skip
      have hok106 : own_ok (x104 * vi) (x104 * vm) := own_okk hO hK1 hK2 hc165_105
      refine own_to (V := T103.setTop (mkF m 182 #[.val (.int p0), .val (.int p1), .val (.int p2), .val (.int vm), .val (.int vi), .val (.double (own_fw vi vm)), .second, .val (.int (1 : Int32)), .val (.int x104), .unset, .unset, .unset, .unset, .unset, .unset] [(.int (x104 * vm)), (.int (x104 * vi))])) ?_ fun t k => (by
        refine XS.icmpNo X103.here hx rfl (hb hby at_165) rfl (flt (hc165_105 : ¬ (((2147483647 : Int32) / x104) < vm))).2.2.1 ?_
        refine XS.iload X103.here hx rfl (hb hby at_168) rfl ?_
        refine XS.ifNo X103.here hx rfl (hb hby at_170) rfl ((if0 _ _).trans (feq ((by decide) : ¬ ((1 : Int32) = (0 : Int32)))).1) ?_
        refine XS.iload X103.here hx rfl (hb hby at_173) rfl ?_
        refine XS.iload X103.here hx rfl (hb hby at_175) rfl ?_
        refine XS.imul X103.here hx rfl (hb hby at_177) rfl ?_
        refine XS.iload X103.here hx rfl (hb hby at_178) rfl ?_
        refine XS.iloadN X103.here hx rfl (hb hby at_180) rfl ?_
        refine XS.imul X103.here hx rfl (hb hby at_181) rfl ?_
        exact k)
      obtain ⟨_, _, ⟨T107, L107, k107, n107⟩, -, X107, ⟨Lc107, hQ107, l107, y107, z107⟩, st107⟩ := Jvm.LawKit.callS X103 hx (y := (⟨"com/example/eager_query/eagerquery/retrieval/WeightedWords", "fallingWeight", "(II)D"⟩ : MethodName)) hown (mvT hZ (hw _ (List.mem_of_getElem? (i := 6) rfl))) (mvT hZ (hw _ (List.mem_of_getElem? (i := 7) rfl))) (mvT hZ (hw _ (List.mem_of_getElem? (i := 8) rfl))) (mvT hZ (hw _ (List.mem_of_getElem? (i := 9) rfl))) (by decide) (backOf (W := 0) (own_rmfw l Z a0 hw hst [] (x104 * vi) (x104 * vm) h103 n0 Xo103 hok106) hZ (hw _ (List.mem_of_getElem? (i := 9) rfl)) (hw _ (List.mem_of_getElem? (i := 8) rfl)) (by decide) (by decide)) (g := (mkF m 182 #[.val (.int p0), .val (.int p1), .val (.int p2), .val (.int vm), .val (.int vi), .val (.double (own_fw vi vm)), .second, .val (.int (1 : Int32)), .val (.int x104), .unset, .unset, .unset, .unset, .unset, .unset] [(.int (x104 * vm)), (.int (x104 * vi))])) rfl (by rw [hml]; rfl) (argsL := [(.int (x104 * vi)), (.int (x104 * vm))]) (rest := []) (lenOf own_pd0 rfl) rfl (by show 2 * 0 + _ ≤ _; exact Nat.le_of_eq rfl) (hb hby at_182) (fun _ _ => ⟨rfl, e103, (by decide : 0 + 0 ≤ _), (by decide : 0 + 0 ≤ _)⟩)
      dsimp only [Pt.U, Pt.locs, Pt.cells, Pt.slots] at X107 l107 y107 z107 st107 hQ107
      subst l107 y107 z107
      obtain ⟨hv107, N107q, K107⟩ := hQ107
      subst hv107
      obtain ⟨h107, e107⟩ : ∃ z, T107.heap = z := ⟨_, rfl⟩
      rw [e107] at K107
      have Xo107 : Old Z n0 h107 := Xo103.keep K107 all0
      have KK107 : Keep h0 h107 [] := KK103.trans K107 all0
      have N107 := Fr.app N103 N107q
      refine own_to (V := T107.setTop (mkF m 185 #[.val (.int p0), .val (.int p1), .val (.int p2), .val (.int vm), .val (.int vi), .val (.double (own_fw vi vm)), .second, .val (.int (1 : Int32)), .val (.int x104), .unset, .unset, .unset, .unset, .unset, .unset] [(.double (own_fw (x104 * vi) (x104 * vm)))])) ?_ st107
      refine own_to (V := T107.setTop (mkF m 198 #[.val (.int p0), .val (.int p1), .val (.int p2), .val (.int vm), .val (.int vi), .val (.double (own_fw vi vm)), .second, .val (.int (1 : Int32)), .val (.int x104), .unset, .unset, .unset, .unset, .unset, .unset] [])) ?_ fun t k => (by
        refine XS.dload X107.here hx rfl (hb hby at_185) rfl ?_
        refine XS.dcmpS X107.here hx rfl (hb hby at_187) rfl rfl ?_
        refine XS.ifNo X107.here hx rfl (hb hby at_188) rfl ((if0 _ _).trans (teq ((own_t188 hO hK1 hK2 hc165_105) : (cmpValue (FP.dcmp (own_fw (x104 * vi) (x104 * vm)) (own_fw vi vm)) .l) = (0 : Int32))).2) ?_
        refine XS.iconst X107.here hx rfl (hb hby at_191) ?_
        refine XS.goto X107.here hx rfl (pc0 := 192) (pc' := 196) rfl (hb hby at_192) (by decide) (by decide) ?_
        refine XS.istore X107.here hx rfl (hb hby at_196) rfl (l' := #[.val (.int p0), .val (.int p1), .val (.int p2), .val (.int vm), .val (.int vi), .val (.double (own_fw vi vm)), .second, .val (.int (1 : Int32)), .val (.int x104), .unset, .unset, .unset, .unset, .unset, .unset]) rfl ?_
        exact k)
      exact own_sgl3 l Z a0 hw hst p0 p1 p2 h0 n0 vm vi (own_fw vi vm) x104 hx hby hret hlk hml hnm hZ hown X107 e107 N107 Xo107 KK107 
  · skip
    obtain ⟨x108, hx108⟩ : ∃ z : Int32, z = ((2 : Int32) + (p2 &&& (7 : Int32))) := ⟨_, rfl⟩
    refine own_to (V := T0.setTop (mkF m 159 #[.val (.int p0), .val (.int p1), .val (.int p2), .val (.int vm), .val (.int vi), .val (.double (own_fw vi vm)), .second, .val (.int (1 : Int32)), .val (.int x108), .unset, .unset, .unset, .unset, .unset, .unset] [])) ?_ fun t k => (by
      first | rw [hx108] at k | skip
      refine XS.icmpYes X0.here hx rfl (pc0 := 122) (pc' := 151) rfl (hb hby at_122) rfl (flt (hc122_101 : ¬ (vm < (2147483647 : Int32)))).2.1 (by decide) (by decide) ?_
      refine XS.iconst X0.here hx rfl (hb hby at_151) ?_
      refine XS.iloadN X0.here hx rfl (hb hby at_152) rfl ?_
      refine XS.bipush X0.here hx rfl (hb hby at_153) ?_
      refine XS.iand X0.here hx rfl (hb hby at_155) rfl ?_
      refine XS.iadd X0.here hx rfl (hb hby at_156) rfl ?_
      refine XS.istore X0.here hx rfl (hb hby at_157) rfl (l' := #[.val (.int p0), .val (.int p1), .val (.int p2), .val (.int vm), .val (.int vi), .val (.double (own_fw vi vm)), .second, .val (.int (1 : Int32)), .val (.int ((2 : Int32) + (p2 &&& (7 : Int32)))), .unset, .unset, .unset, .unset, .unset, .unset]) rfl ?_
      exact k)
    obtain ⟨nK, hK1, hK2, hK3⟩ : ∃ K : Nat, x108.toInt = K ∧ 2 ≤ K ∧ K ≤ 9 := by rw [hx108]; exact own_kk _
    refine own_to (V := T0.setTop (mkF m 160 #[.val (.int p0), .val (.int p1), .val (.int p2), .val (.int vm), .val (.int vi), .val (.double (own_fw vi vm)), .second, .val (.int (1 : Int32)), .val (.int x108), .unset, .unset, .unset, .unset, .unset, .unset] [(.int vm)])) ?_ fun t k => (by
      refine XS.iloadN X0.here hx rfl (hb hby at_159) rfl ?_
      exact k)
    refine own_to (V := T0.setTop (mkF m 162 #[.val (.int p0), .val (.int p1), .val (.int p2), .val (.int vm), .val (.int vi), .val (.double (own_fw vi vm)), .second, .val (.int (1 : Int32)), .val (.int x108), .unset, .unset, .unset, .unset, .unset, .unset] [(.int (2147483647 : Int32)), (.int vm)])) ?_ (fun t k => X0.ldcInt hx hown (mvT hZ (hw _ (List.mem_of_getElem? (i := 0) rfl))) (g := (mkF m 160 #[.val (.int p0), .val (.int p1), .val (.int p2), .val (.int vm), .val (.int vi), .val (.double (own_fw vi vm)), .second, .val (.int (1 : Int32)), .val (.int x108), .unset, .unset, .unset, .unset, .unset, .unset] [(.int vm)])) rfl (hb hby at_160) t k)
    refine own_to (V := T0.setTop (mkF m 165 #[.val (.int p0), .val (.int p1), .val (.int p2), .val (.int vm), .val (.int vi), .val (.double (own_fw vi vm)), .second, .val (.int (1 : Int32)), .val (.int x108), .unset, .unset, .unset, .unset, .unset, .unset] [(.int ((2147483647 : Int32) / x108)), (.int vm)])) ?_ fun t k => (by
      refine XS.iload X0.here hx rfl (hb hby at_162) rfl ?_
      refine XS.idiv X0.here hx rfl (hb hby at_164) rfl (own_nzk hK1 hK2) ?_
      exact k)
    by_cases hc165_109 : ((2147483647 : Int32) / x108) < vm
    · skip
      refine own_to (V := T0.setTop (mkF m 198 #[.val (.int p0), .val (.int p1), .val (.int p2), .val (.int vm), .val (.int vi), .val (.double (own_fw vi vm)), .second, .val (.int (1 : Int32)), .val (.int x108), .unset, .unset, .unset, .unset, .unset, .unset] [])) ?_ fun t k => (by
        refine XS.icmpYes X0.here hx rfl (pc0 := 165) (pc' := 198) rfl (hb hby at_165) rfl (tlt (hc165_109 : ((2147483647 : Int32) / x108) < vm)).2.2.1 (by decide) (by decide) ?_
        exact k)
      exact own_sgl3 l Z a0 hw hst p0 p1 p2 h0 n0 vm vi (own_fw vi vm) x108 hx hby hret hlk hml hnm hZ hown X0 e0 N0 Xo0 KK0 
    · skip
      have hok110 : own_ok (x108 * vi) (x108 * vm) := own_okk hO hK1 hK2 hc165_109
      refine own_to (V := T0.setTop (mkF m 182 #[.val (.int p0), .val (.int p1), .val (.int p2), .val (.int vm), .val (.int vi), .val (.double (own_fw vi vm)), .second, .val (.int (1 : Int32)), .val (.int x108), .unset, .unset, .unset, .unset, .unset, .unset] [(.int (x108 * vm)), (.int (x108 * vi))])) ?_ fun t k => (by
        refine XS.icmpNo X0.here hx rfl (hb hby at_165) rfl (flt (hc165_109 : ¬ (((2147483647 : Int32) / x108) < vm))).2.2.1 ?_
        refine XS.iload X0.here hx rfl (hb hby at_168) rfl ?_
        refine XS.ifNo X0.here hx rfl (hb hby at_170) rfl ((if0 _ _).trans (feq ((by decide) : ¬ ((1 : Int32) = (0 : Int32)))).1) ?_
        refine XS.iload X0.here hx rfl (hb hby at_173) rfl ?_
        refine XS.iload X0.here hx rfl (hb hby at_175) rfl ?_
        refine XS.imul X0.here hx rfl (hb hby at_177) rfl ?_
        refine XS.iload X0.here hx rfl (hb hby at_178) rfl ?_
        refine XS.iloadN X0.here hx rfl (hb hby at_180) rfl ?_
        refine XS.imul X0.here hx rfl (hb hby at_181) rfl ?_
        exact k)
      obtain ⟨_, _, ⟨T111, L111, k111, n111⟩, -, X111, ⟨Lc111, hQ111, l111, y111, z111⟩, st111⟩ := Jvm.LawKit.callS X0 hx (y := (⟨"com/example/eager_query/eagerquery/retrieval/WeightedWords", "fallingWeight", "(II)D"⟩ : MethodName)) hown (mvT hZ (hw _ (List.mem_of_getElem? (i := 6) rfl))) (mvT hZ (hw _ (List.mem_of_getElem? (i := 7) rfl))) (mvT hZ (hw _ (List.mem_of_getElem? (i := 8) rfl))) (mvT hZ (hw _ (List.mem_of_getElem? (i := 9) rfl))) (by decide) (backOf (W := 0) (own_rmfw l Z a0 hw hst [] (x108 * vi) (x108 * vm) h n0 Xo0 hok110) hZ (hw _ (List.mem_of_getElem? (i := 9) rfl)) (hw _ (List.mem_of_getElem? (i := 8) rfl)) (by decide) (by decide)) (g := (mkF m 182 #[.val (.int p0), .val (.int p1), .val (.int p2), .val (.int vm), .val (.int vi), .val (.double (own_fw vi vm)), .second, .val (.int (1 : Int32)), .val (.int x108), .unset, .unset, .unset, .unset, .unset, .unset] [(.int (x108 * vm)), (.int (x108 * vi))])) rfl (by rw [hml]; rfl) (argsL := [(.int (x108 * vi)), (.int (x108 * vm))]) (rest := []) (lenOf own_pd0 rfl) rfl (by show 2 * 0 + _ ≤ _; exact Nat.le_of_eq rfl) (hb hby at_182) (fun _ _ => ⟨rfl, e0, (by decide : 0 + 0 ≤ _), (by decide : 0 + 0 ≤ _)⟩)
      dsimp only [Pt.U, Pt.locs, Pt.cells, Pt.slots] at X111 l111 y111 z111 st111 hQ111
      subst l111 y111 z111
      obtain ⟨hv111, N111q, K111⟩ := hQ111
      subst hv111
      obtain ⟨h111, e111⟩ : ∃ z, T111.heap = z := ⟨_, rfl⟩
      rw [e111] at K111
      have Xo111 : Old Z n0 h111 := Xo0.keep K111 all0
      have KK111 : Keep h0 h111 [] := KK0.trans K111 all0
      have N111 := Fr.app N0 N111q
      refine own_to (V := T111.setTop (mkF m 185 #[.val (.int p0), .val (.int p1), .val (.int p2), .val (.int vm), .val (.int vi), .val (.double (own_fw vi vm)), .second, .val (.int (1 : Int32)), .val (.int x108), .unset, .unset, .unset, .unset, .unset, .unset] [(.double (own_fw (x108 * vi) (x108 * vm)))])) ?_ st111
      refine own_to (V := T111.setTop (mkF m 198 #[.val (.int p0), .val (.int p1), .val (.int p2), .val (.int vm), .val (.int vi), .val (.double (own_fw vi vm)), .second, .val (.int (1 : Int32)), .val (.int x108), .unset, .unset, .unset, .unset, .unset, .unset] [])) ?_ fun t k => (by
        refine XS.dload X111.here hx rfl (hb hby at_185) rfl ?_
        refine XS.dcmpS X111.here hx rfl (hb hby at_187) rfl rfl ?_
        refine XS.ifNo X111.here hx rfl (hb hby at_188) rfl ((if0 _ _).trans (teq ((own_t188 hO hK1 hK2 hc165_109) : (cmpValue (FP.dcmp (own_fw (x108 * vi) (x108 * vm)) (own_fw vi vm)) .l) = (0 : Int32))).2) ?_
        refine XS.iconst X111.here hx rfl (hb hby at_191) ?_
        refine XS.goto X111.here hx rfl (pc0 := 192) (pc' := 196) rfl (hb hby at_192) (by decide) (by decide) ?_
        refine XS.istore X111.here hx rfl (hb hby at_196) rfl (l' := #[.val (.int p0), .val (.int p1), .val (.int p2), .val (.int vm), .val (.int vi), .val (.double (own_fw vi vm)), .second, .val (.int (1 : Int32)), .val (.int x108), .unset, .unset, .unset, .unset, .unset, .unset]) rfl ?_
        exact k)
      exact own_sgl3 l Z a0 hw hst p0 p1 p2 h0 n0 vm vi (own_fw vi vm) x108 hx hby hret hlk hml hnm hZ hown X111 e111 N111 Xo111 KK111 
set_option maxRecDepth 65536 in
set_option maxHeartbeats 40000000 in
theorem own_sgl1 (l : Launch) (Z : State) (a0 : Array Value) (hw : ∀ d ∈ tables_1, d.before a0 Z = true) (hst : own_St Z) (p0 : Int32) (p1 : Int32) (p2 : Int32) (h0 : Heap) (n0 : Nat) (vm : Int32) (nM : Nat)
    {p : Program} {e : Env} {s : State} {m : MethodId} {args : Array Value} {below : List Frame} {meth : Method} {c : Code} (hx : p.tables.exec = Jvm.exec) (hby : c.code = code) (hret : meth.sig.returnType = ret) (hlk : meth.locks = false) (hml : c.maxLocals = 15) (hnm : meth.name = "law") (hZ : Z.Warmed39 s.vm) (hown : s.vm.findClass "com/example/eager_query/eagerquery/retrieval/WeightedWordsFallingWeightPinLaw" = some m.cls)
    {T0 : State} {locs : List Loc} {h : Heap} (X0 : Stand p l e room_1 s m args below meth c T0 locs 0 0) (e0 : T0.heap = h) (N0 : Fr n0 locs) (Xo0 : Old Z n0 h) (KK0 : Keep h0 h []) (hm : vm.toInt = nM) (h1 : 1 ≤ nM) :
    own_Go p e below (own_Post s (own_Qlaw Z p0 p1 p2 h0 n0) room_1.cells room_1.slots) (T0.setTop (mkF m 9 #[.val (.int p0), .val (.int p1), .val (.int p2), .val (.int vm), .unset, .unset, .unset, .unset, .unset, .unset, .unset, .unset, .unset, .unset, .unset] [])) := by
  obtain _u := id hst
  refine own_to (V := T0.setTop (mkF m 12 #[.val (.int p0), .val (.int p1), .val (.int p2), .val (.int vm), .unset, .unset, .unset, .unset, .unset, .unset, .unset, .unset, .unset, .unset, .unset] [(.long (p1.toInt64)), (.int (1 : Int32))])) ?_ fun t k => (by
    refine XS.iconst X0.here hx rfl (hb hby at_9) ?_
    refine XS.iloadN X0.here hx rfl (hb hby at_10) rfl ?_
    refine XS.i2l X0.here hx rfl (hb hby at_11) rfl ?_
    exact k)
  refine own_to (V := T0.setTop (mkF m 15 #[.val (.int p0), .val (.int p1), .val (.int p2), .val (.int vm), .unset, .unset, .unset, .unset, .unset, .unset, .unset, .unset, .unset, .unset, .unset] [(.long (2147483647 : Int64)), (.long (p1.toInt64)), (.int (1 : Int32))])) ?_ (fun t k => X0.ldc2Long hx hown (mvT hZ (hw _ (List.mem_of_getElem? (i := 5) rfl))) (g := (mkF m 12 #[.val (.int p0), .val (.int p1), .val (.int p2), .val (.int vm), .unset, .unset, .unset, .unset, .unset, .unset, .unset, .unset, .unset, .unset, .unset] [(.long (p1.toInt64)), (.int (1 : Int32))])) rfl (hb hby at_12) t k)
  obtain ⟨x101, hx101⟩ : ∃ z : Int32, z = ((1 : Int32) + ((((p1.toInt64) &&& (2147483647 : Int64)) % (vm.toInt64)).toInt32)) := ⟨_, rfl⟩
  refine own_to (V := T0.setTop (mkF m 23 #[.val (.int p0), .val (.int p1), .val (.int p2), .val (.int vm), .val (.int x101), .unset, .unset, .unset, .unset, .unset, .unset, .unset, .unset, .unset, .unset] [])) ?_ fun t k => (by
    first | rw [hx101] at k | skip
    refine XS.land X0.here hx rfl (hb hby at_15) rfl ?_
    refine XS.iloadN X0.here hx rfl (hb hby at_16) rfl ?_
    refine XS.i2l X0.here hx rfl (hb hby at_17) rfl ?_
    refine own_lrem X0.here hx rfl (hb hby at_18) rfl (own_nzl hm h1) ?_
    refine XS.l2i X0.here hx rfl (hb hby at_19) rfl ?_
    refine XS.iadd X0.here hx rfl (hb hby at_20) rfl ?_
    refine XS.istore X0.here hx rfl (hb hby at_21) rfl (l' := #[.val (.int p0), .val (.int p1), .val (.int p2), .val (.int vm), .val (.int ((1 : Int32) + ((((p1.toInt64) &&& (2147483647 : Int64)) % (vm.toInt64)).toInt32))), .unset, .unset, .unset, .unset, .unset, .unset, .unset, .unset, .unset, .unset]) rfl ?_
    exact k)
  have hO : own_ok x101 vm := by rw [hx101]; exact own_im hm h1
  refine own_to (V := T0.setTop (mkF m 26 #[.val (.int p0), .val (.int p1), .val (.int p2), .val (.int vm), .val (.int x101), .unset, .unset, .unset, .unset, .unset, .unset, .unset, .unset, .unset, .unset] [(.int vm), (.int x101)])) ?_ fun t k => (by
    refine XS.iload X0.here hx rfl (hb hby at_23) rfl ?_
    refine XS.iloadN X0.here hx rfl (hb hby at_25) rfl ?_
    exact k)
  obtain ⟨_, _, ⟨T102, L102, k102, n102⟩, -, X102, ⟨Lc102, hQ102, l102, y102, z102⟩, st102⟩ := Jvm.LawKit.callS X0 hx (y := (⟨"com/example/eager_query/eagerquery/retrieval/WeightedWords", "fallingWeight", "(II)D"⟩ : MethodName)) hown (mvT hZ (hw _ (List.mem_of_getElem? (i := 6) rfl))) (mvT hZ (hw _ (List.mem_of_getElem? (i := 7) rfl))) (mvT hZ (hw _ (List.mem_of_getElem? (i := 8) rfl))) (mvT hZ (hw _ (List.mem_of_getElem? (i := 9) rfl))) (by decide) (backOf (W := 0) (own_rmfw l Z a0 hw hst [] x101 vm h n0 Xo0 hO) hZ (hw _ (List.mem_of_getElem? (i := 9) rfl)) (hw _ (List.mem_of_getElem? (i := 8) rfl)) (by decide) (by decide)) (g := (mkF m 26 #[.val (.int p0), .val (.int p1), .val (.int p2), .val (.int vm), .val (.int x101), .unset, .unset, .unset, .unset, .unset, .unset, .unset, .unset, .unset, .unset] [(.int vm), (.int x101)])) rfl (by rw [hml]; rfl) (argsL := [(.int x101), (.int vm)]) (rest := []) (lenOf own_pd0 rfl) rfl (by show 2 * 0 + _ ≤ _; exact Nat.le_of_eq rfl) (hb hby at_26) (fun _ _ => ⟨rfl, e0, (by decide : 0 + 0 ≤ _), (by decide : 0 + 0 ≤ _)⟩)
  dsimp only [Pt.U, Pt.locs, Pt.cells, Pt.slots] at X102 l102 y102 z102 st102 hQ102
  subst l102 y102 z102
  obtain ⟨hv102, N102q, K102⟩ := hQ102
  subst hv102
  obtain ⟨h102, e102⟩ : ∃ z, T102.heap = z := ⟨_, rfl⟩
  rw [e102] at K102
  have Xo102 : Old Z n0 h102 := Xo0.keep K102 all0
  have KK102 : Keep h0 h102 [] := KK0.trans K102 all0
  have N102 := Fr.app N0 N102q
  refine own_to (V := T102.setTop (mkF m 29 #[.val (.int p0), .val (.int p1), .val (.int p2), .val (.int vm), .val (.int x101), .unset, .unset, .unset, .unset, .unset, .unset, .unset, .unset, .unset, .unset] [(.double (own_fw x101 vm))])) ?_ st102
  refine own_to (V := T102.setTop (mkF m 31 #[.val (.int p0), .val (.int p1), .val (.int p2), .val (.int vm), .val (.int x101), .val (.double (own_fw x101 vm)), .second, .unset, .unset, .unset, .unset, .unset, .unset, .unset, .unset] [])) ?_ fun t k => (by
    refine XS.dstore X102.here hx rfl (hb hby at_29) rfl (l' := #[.val (.int p0), .val (.int p1), .val (.int p2), .val (.int vm), .val (.int x101), .val (.double (own_fw x101 vm)), .second, .unset, .unset, .unset, .unset, .unset, .unset, .unset, .unset]) rfl ?_
    exact k)
  refine own_to (V := T102.setTop (mkF m 34 #[.val (.int p0), .val (.int p1), .val (.int p2), .val (.int vm), .val (.int x101), .val (.double (own_fw x101 vm)), .second, .unset, .unset, .unset, .unset, .unset, .unset, .unset, .unset] [(.double (4591870180066957722 : UInt64))])) ?_ (fun t k => X102.ldc2DoubleC hx hown (mvT hZ (hw _ (List.mem_of_getElem? (i := 12) rfl))) (g := (mkF m 31 #[.val (.int p0), .val (.int p1), .val (.int p2), .val (.int vm), .val (.int x101), .val (.double (own_fw x101 vm)), .second, .unset, .unset, .unset, .unset, .unset, .unset, .unset, .unset] [])) rfl (hb hby at_31) t k)
  refine own_to (V := T102.setTop (mkF m 57 #[.val (.int p0), .val (.int p1), .val (.int p2), .val (.int vm), .val (.int x101), .val (.double (own_fw x101 vm)), .second, .val (.int (1 : Int32)), .unset, .unset, .unset, .unset, .unset, .unset, .unset] [(.int vm), (.int x101)])) ?_ fun t k => (by
    refine XS.dload X102.here hx rfl (hb hby at_34) rfl ?_
    refine XS.dcmpS X102.here hx rfl (hb hby at_36) rfl rfl ?_
    refine XS.ifNo X102.here hx rfl (hb hby at_37) rfl ((if0 _ _).trans (flt ((own_t37 hO) : ¬ ((0 : Int32) < (cmpValue (FP.dcmp (4591870180066957722 : UInt64) (own_fw x101 vm)) .g)))).2.2.1) ?_
    refine XS.dload X102.here hx rfl (hb hby at_40) rfl ?_
    refine XS.dconst1 X102.here hx rfl (hb hby at_42) rfl ?_
    refine XS.dcmpS X102.here hx rfl (hb hby at_43) rfl rfl ?_
    refine XS.ifNo X102.here hx rfl (hb hby at_44) rfl ((if0 _ _).trans (tlt ((own_t44 hO) : (cmpValue (FP.dcmp (own_fw x101 vm) FP.dconst1) .g) < (0 : Int32))).2.1) ?_
    refine XS.iconst X102.here hx rfl (hb hby at_47) ?_
    refine XS.goto X102.here hx rfl (pc0 := 48) (pc' := 52) rfl (hb hby at_48) (by decide) (by decide) ?_
    refine XS.istore X102.here hx rfl (hb hby at_52) rfl (l' := #[.val (.int p0), .val (.int p1), .val (.int p2), .val (.int vm), .val (.int x101), .val (.double (own_fw x101 vm)), .second, .val (.int (1 : Int32)), .unset, .unset, .unset, .unset, .unset, .unset, .unset]) rfl ?_
    refine XS.iload X102.here hx rfl (hb hby at_54) rfl ?_
    refine XS.iloadN X102.here hx rfl (hb hby at_56) rfl ?_
    exact k)
  by_cases hc57_103 : x101 = vm
  · skip
    refine own_to (V := T102.setTop (mkF m 67 #[.val (.int p0), .val (.int p1), .val (.int p2), .val (.int vm), .val (.int x101), .val (.double (own_fw x101 vm)), .second, .val (.int (1 : Int32)), .unset, .unset, .unset, .unset, .unset, .unset, .unset] [(.double (own_fw x101 vm))])) ?_ fun t k => (by
      refine XS.icmpNo X102.here hx rfl (hb hby at_57) rfl (teq (hc57_103 : x101 = vm)).2 ?_
      refine XS.iload X102.here hx rfl (hb hby at_60) rfl ?_
      refine XS.ifNo X102.here hx rfl (hb hby at_62) rfl ((if0 _ _).trans (feq ((by decide) : ¬ ((1 : Int32) = (0 : Int32)))).1) ?_
      refine XS.dload X102.here hx rfl (hb hby at_65) rfl ?_
      exact k)
    refine own_to (V := T102.setTop (mkF m 70 #[.val (.int p0), .val (.int p1), .val (.int p2), .val (.int vm), .val (.int x101), .val (.double (own_fw x101 vm)), .second, .val (.int (1 : Int32)), .unset, .unset, .unset, .unset, .unset, .unset, .unset] [(.double (4591870180066957722 : UInt64)), (.double (own_fw x101 vm))])) ?_ (fun t k => X102.ldc2DoubleC hx hown (mvT hZ (hw _ (List.mem_of_getElem? (i := 12) rfl))) (g := (mkF m 67 #[.val (.int p0), .val (.int p1), .val (.int p2), .val (.int vm), .val (.int x101), .val (.double (own_fw x101 vm)), .second, .val (.int (1 : Int32)), .unset, .unset, .unset, .unset, .unset, .unset, .unset] [(.double (own_fw x101 vm))])) rfl (hb hby at_67) t k)
    refine own_to (V := T102.setTop (mkF m 119 #[.val (.int p0), .val (.int p1), .val (.int p2), .val (.int vm), .val (.int x101), .val (.double (own_fw x101 vm)), .second, .val (.int (1 : Int32)), .unset, .unset, .unset, .unset, .unset, .unset, .unset] [])) ?_ fun t k => (by
      refine XS.dcmpS X102.here hx rfl (hb hby at_70) rfl rfl ?_
      refine XS.ifNo X102.here hx rfl (hb hby at_71) rfl ((if0 _ _).trans (teq ((own_t71 hO hc57_103) : (cmpValue (FP.dcmp (own_fw x101 vm) (4591870180066957722 : UInt64)) .l) = (0 : Int32))).2) ?_
      refine XS.iconst X102.here hx rfl (hb hby at_74) ?_
      refine XS.goto X102.here hx rfl (pc0 := 75) (pc' := 79) rfl (hb hby at_75) (by decide) (by decide) ?_
      refine XS.istore X102.here hx rfl (hb hby at_79) rfl (l' := #[.val (.int p0), .val (.int p1), .val (.int p2), .val (.int vm), .val (.int x101), .val (.double (own_fw x101 vm)), .second, .val (.int (1 : Int32)), .unset, .unset, .unset, .unset, .unset, .unset, .unset]) rfl ?_
      refine XS.goto X102.here hx rfl (pc0 := 81) (pc' := 119) rfl (hb hby at_81) (by decide) (by decide) ?_
      exact k)
    exact own_sgl2 l Z a0 hw hst p0 p1 p2 h0 n0 vm x101 hx hby hret hlk hml hnm hZ hown X102 e102 N102 Xo102 KK102 hO
  · skip
    refine own_to (V := T102.setTop (mkF m 91 #[.val (.int p0), .val (.int p1), .val (.int p2), .val (.int vm), .val (.int x101), .val (.double (own_fw x101 vm)), .second, .val (.int (1 : Int32)), .unset, .unset, .unset, .unset, .unset, .unset, .unset] [(.double (own_fw x101 vm))])) ?_ fun t k => (by
      refine XS.icmpYes X102.here hx rfl (pc0 := 57) (pc' := 84) rfl (hb hby at_57) rfl (feq (hc57_103 : ¬ (x101 = vm))).2 (by decide) (by decide) ?_
      refine XS.iload X102.here hx rfl (hb hby at_84) rfl ?_
      refine XS.ifNo X102.here hx rfl (hb hby at_86) rfl ((if0 _ _).trans (feq ((by decide) : ¬ ((1 : Int32) = (0 : Int32)))).1) ?_
      refine XS.dload X102.here hx rfl (hb hby at_89) rfl ?_
      exact k)
    refine own_to (V := T102.setTop (mkF m 94 #[.val (.int p0), .val (.int p1), .val (.int p2), .val (.int vm), .val (.int x101), .val (.double (own_fw x101 vm)), .second, .val (.int (1 : Int32)), .unset, .unset, .unset, .unset, .unset, .unset, .unset] [(.double (4591870180066957722 : UInt64)), (.double (own_fw x101 vm))])) ?_ (fun t k => X102.ldc2DoubleC hx hown (mvT hZ (hw _ (List.mem_of_getElem? (i := 12) rfl))) (g := (mkF m 91 #[.val (.int p0), .val (.int p1), .val (.int p2), .val (.int vm), .val (.int x101), .val (.double (own_fw x101 vm)), .second, .val (.int (1 : Int32)), .unset, .unset, .unset, .unset, .unset, .unset, .unset] [(.double (own_fw x101 vm))])) rfl (hb hby at_91) t k)
    have hok104 : own_ok (x101 + (1 : Int32)) vm := own_ok_succ hO hc57_103
    refine own_to (V := T102.setTop (mkF m 105 #[.val (.int p0), .val (.int p1), .val (.int p2), .val (.int vm), .val (.int x101), .val (.double (own_fw x101 vm)), .second, .val (.int (1 : Int32)), .unset, .unset, .unset, .unset, .unset, .unset, .unset] [(.int vm), (.int (x101 + (1 : Int32))), (.double (own_fw x101 vm))])) ?_ fun t k => (by
      refine XS.dcmpS X102.here hx rfl (hb hby at_94) rfl rfl ?_
      refine XS.ifNo X102.here hx rfl (hb hby at_95) rfl ((if0 _ _).trans (tlt ((own_t95 hO hc57_103) : (0 : Int32) < (cmpValue (FP.dcmp (own_fw x101 vm) (4591870180066957722 : UInt64)) .l))).2.2.2) ?_
      refine XS.dload X102.here hx rfl (hb hby at_98) rfl ?_
      refine XS.iload X102.here hx rfl (hb hby at_100) rfl ?_
      refine XS.iconst X102.here hx rfl (hb hby at_102) ?_
      refine XS.iadd X102.here hx rfl (hb hby at_103) rfl ?_
      refine XS.iloadN X102.here hx rfl (hb hby at_104) rfl ?_
      exact k)
    obtain ⟨_, _, ⟨T105, L105, k105, n105⟩, -, X105, ⟨Lc105, hQ105, l105, y105, z105⟩, st105⟩ := Jvm.LawKit.callS X102 hx (y := (⟨"com/example/eager_query/eagerquery/retrieval/WeightedWords", "fallingWeight", "(II)D"⟩ : MethodName)) hown (mvT hZ (hw _ (List.mem_of_getElem? (i := 6) rfl))) (mvT hZ (hw _ (List.mem_of_getElem? (i := 7) rfl))) (mvT hZ (hw _ (List.mem_of_getElem? (i := 8) rfl))) (mvT hZ (hw _ (List.mem_of_getElem? (i := 9) rfl))) (by decide) (backOf (W := 2) (own_rmfw l Z a0 hw hst [] (x101 + (1 : Int32)) vm h102 n0 Xo102 hok104) hZ (hw _ (List.mem_of_getElem? (i := 9) rfl)) (hw _ (List.mem_of_getElem? (i := 8) rfl)) (by decide) (by decide)) (g := (mkF m 105 #[.val (.int p0), .val (.int p1), .val (.int p2), .val (.int vm), .val (.int x101), .val (.double (own_fw x101 vm)), .second, .val (.int (1 : Int32)), .unset, .unset, .unset, .unset, .unset, .unset, .unset] [(.int vm), (.int (x101 + (1 : Int32))), (.double (own_fw x101 vm))])) rfl (by rw [hml]; rfl) (argsL := [(.int (x101 + (1 : Int32))), (.int vm)]) (rest := [(.double (own_fw x101 vm))]) (lenOf own_pd0 rfl) rfl (by show 2 * 0 + _ ≤ _; exact Nat.le_of_eq rfl) (hb hby at_105) (fun _ _ => ⟨rfl, e102, (by decide : 0 + 0 ≤ _), (by decide : 0 + 0 ≤ _)⟩)
    dsimp only [Pt.U, Pt.locs, Pt.cells, Pt.slots] at X105 l105 y105 z105 st105 hQ105
    subst l105 y105 z105
    obtain ⟨hv105, N105q, K105⟩ := hQ105
    subst hv105
    obtain ⟨h105, e105⟩ : ∃ z, T105.heap = z := ⟨_, rfl⟩
    rw [e105] at K105
    have Xo105 : Old Z n0 h105 := Xo102.keep K105 all0
    have KK105 : Keep h0 h105 [] := KK102.trans K105 all0
    have N105 := Fr.app N102 N105q
    refine own_to (V := T105.setTop (mkF m 108 #[.val (.int p0), .val (.int p1), .val (.int p2), .val (.int vm), .val (.int x101), .val (.double (own_fw x101 vm)), .second, .val (.int (1 : Int32)), .unset, .unset, .unset, .unset, .unset, .unset, .unset] [(.double (own_fw (x101 + (1 : Int32)) vm)), (.double (own_fw x101 vm))])) ?_ st105
    refine own_to (V := T105.setTop (mkF m 119 #[.val (.int p0), .val (.int p1), .val (.int p2), .val (.int vm), .val (.int x101), .val (.double (own_fw x101 vm)), .second, .val (.int (1 : Int32)), .unset, .unset, .unset, .unset, .unset, .unset, .unset] [])) ?_ fun t k => (by
      refine XS.dcmpS X105.here hx rfl (hb hby at_108) rfl rfl ?_
      refine XS.ifNo X105.here hx rfl (hb hby at_109) rfl ((if0 _ _).trans (tlt ((own_t109 hO hc57_103) : (0 : Int32) < (cmpValue (FP.dcmp (own_fw x101 vm) (own_fw (x101 + (1 : Int32)) vm)) .l))).2.2.2) ?_
      refine XS.iconst X105.here hx rfl (hb hby at_112) ?_
      refine XS.goto X105.here hx rfl (pc0 := 113) (pc' := 117) rfl (hb hby at_113) (by decide) (by decide) ?_
      refine XS.istore X105.here hx rfl (hb hby at_117) rfl (l' := #[.val (.int p0), .val (.int p1), .val (.int p2), .val (.int vm), .val (.int x101), .val (.double (own_fw x101 vm)), .second, .val (.int (1 : Int32)), .unset, .unset, .unset, .unset, .unset, .unset, .unset]) rfl ?_
      exact k)
    exact own_sgl2 l Z a0 hw hst p0 p1 p2 h0 n0 vm x101 hx hby hret hlk hml hnm hZ hown X105 e105 N105 Xo105 KK105 hO
theorem own_ef_law (m : MethodId) (p0 : Int32) (p1 : Int32) (p2 : Int32)  : entryFrame m #[(.int p0), (.int p1), (.int p2)] maxLocals = mkF m 0 #[.val (.int p0), .val (.int p1), .val (.int p2), .unset, .unset, .unset, .unset, .unset, .unset, .unset, .unset, .unset, .unset, .unset, .unset] [] := by first | (simp [entryFrame, mkF, argsToLocals, Value.category, maxLocals]; done) | rfl
set_option maxRecDepth 65536 in
set_option maxHeartbeats 40000000 in
theorem own_rmlaw (l : Launch) (Z : State) (a0 : Array Value) (hw : ∀ d ∈ tables_1, d.before a0 Z = true) (hst : own_St Z) (ws : List Jvm.Cond) (p0 : Int32) (p1 : Int32) (p2 : Int32) (h0 : Heap) (n0 : Nat) (X00 : Old Z n0 h0)  :
    MetFree l x (head1 (Jvm.Cond.code x code maxLocals ret :: ws) room_1) (fun a U => a = #[(.int p0), (.int p1), (.int p2)] ∧ Z.Warmed39 U.vm ∧ U.heap = h0) (fun _ _ _ _ _ => True) (fun _ U o U' => ∃ v L, o = .returned v ∧ own_Qlaw Z p0 p1 p2 h0 n0 v U'.heap L ∧ FrameEnd U o U' L room_1.cells room_1.slots) := by
  refine MetFree.of_bodySF (plainFor_of_name own_pn1) hisR ?_
  intro p e s m args below meth c s₁ Bd hml0 hP hK
  obtain ⟨rfl, hZ, hh⟩ := hP
  have hx := Bd.exec
  have hby := Bd.bytes
  have hret := Bd.returns
  have hlk : meth.locks = false := BodyLoose.notSynchronized Bd
  have hml : c.maxLocals = 15 := hml0
  have hown : s.vm.findClass "com/example/eager_query/eagerquery/retrieval/WeightedWordsFallingWeightPinLaw" = some m.cls := findClass_of_methodNamed Bd.named
  have hnm := (name_of_methodNamed Bd.named Bd.method).1
  have X0 : Stand p l e room_1 s m #[(.int p0), (.int p1), (.int p2)] below meth c s₁ [] 0 0 := Stand.of_body Bd
  have e0 : s₁.heap = h0 := by rw [← hh, Bd.state]; rfl
  have N0 := Fr.nil n0
  have KK0 : Keep h0 h0 [] := Keep.refl h0 _
  refine own_start (own_Qlaw Z p0 p1 p2 h0 n0) ?_
  refine own_to (V := s₁.setTop (mkF m 0 #[.val (.int p0), .val (.int p1), .val (.int p2), .unset, .unset, .unset, .unset, .unset, .unset, .unset, .unset, .unset, .unset, .unset, .unset] [])) ?_ (fun t k => castTop (own_ef_law m p0 p1 p2 ) k)
  obtain _u := id hst
  refine own_to (V := s₁.setTop (mkF m 2 #[.val (.int p0), .val (.int p1), .val (.int p2), .unset, .unset, .unset, .unset, .unset, .unset, .unset, .unset, .unset, .unset, .unset, .unset] [(.int p0), (.int (1 : Int32))])) ?_ fun t k => (by
    refine XS.iconst X0.here hx rfl (hb hby at_0) ?_
    refine XS.iloadN X0.here hx rfl (hb hby at_1) rfl ?_
    exact k)
  refine own_to (V := s₁.setTop (mkF m 4 #[.val (.int p0), .val (.int p1), .val (.int p2), .unset, .unset, .unset, .unset, .unset, .unset, .unset, .unset, .unset, .unset, .unset, .unset] [(.int (2147483647 : Int32)), (.int p0), (.int (1 : Int32))])) ?_ (fun t k => X0.ldcInt hx hown (mvT hZ (hw _ (List.mem_of_getElem? (i := 0) rfl))) (g := (mkF m 2 #[.val (.int p0), .val (.int p1), .val (.int p2), .unset, .unset, .unset, .unset, .unset, .unset, .unset, .unset, .unset, .unset, .unset, .unset] [(.int p0), (.int (1 : Int32))])) rfl (hb hby at_2) t k)
  refine own_to (V := s₁.setTop (mkF m 5 #[.val (.int p0), .val (.int p1), .val (.int p2), .unset, .unset, .unset, .unset, .unset, .unset, .unset, .unset, .unset, .unset, .unset, .unset] [(.int (p0 &&& (2147483647 : Int32))), (.int (1 : Int32))])) ?_ fun t k => (by
    refine XS.iand X0.here hx rfl (hb hby at_4) rfl ?_
    exact k)
  obtain ⟨_, _, ⟨T101, L101, k101, n101⟩, -, X101, ⟨Lc101, hQ101, l101, y101, z101⟩, st101⟩ := Jvm.LawKit.callS X0 hx (y := (⟨"java/lang/Math", "max", "(II)I"⟩ : MethodName)) hown (mvT hZ (hw _ (List.mem_of_getElem? (i := 1) rfl))) (mvT hZ (hw _ (List.mem_of_getElem? (i := 2) rfl))) (mvT hZ (hw _ (List.mem_of_getElem? (i := 3) rfl))) (mvT hZ (hw _ (List.mem_of_getElem? (i := 4) rfl))) (by decide) (backOf (W := 0) (own_rmmamax l Z a0 hw hst [] (1 : Int32) (p0 &&& (2147483647 : Int32)) h0 n0 X00 ) hZ (hw _ (List.mem_of_getElem? (i := 4) rfl)) (hw _ (List.mem_of_getElem? (i := 3) rfl)) (by decide) (by decide)) (g := (mkF m 5 #[.val (.int p0), .val (.int p1), .val (.int p2), .unset, .unset, .unset, .unset, .unset, .unset, .unset, .unset, .unset, .unset, .unset, .unset] [(.int (p0 &&& (2147483647 : Int32))), (.int (1 : Int32))])) rfl (by rw [hml]; rfl) (argsL := [(.int (1 : Int32)), (.int (p0 &&& (2147483647 : Int32)))]) (rest := []) (lenOf own_pd1 rfl) rfl (by show 2 * 0 + _ ≤ _; exact Nat.le_of_eq rfl) (hb hby at_5) (fun _ _ => ⟨rfl, e0, (by decide : 0 + 0 ≤ _), (by decide : 0 + 0 ≤ _)⟩)
  dsimp only [Pt.U, Pt.locs, Pt.cells, Pt.slots] at X101 l101 y101 z101 st101 hQ101
  subst l101 y101 z101
  rcases hQ101 with ⟨hv101, N101q, K101, g101_0⟩ | ⟨hv101, N101q, K101, g101_0⟩
  · skip
    subst hv101
    obtain ⟨h101, e101⟩ : ∃ z, T101.heap = z := ⟨_, rfl⟩
    rw [e101] at K101
    have Xo101 : Old Z n0 h101 := X00.keep K101 all0
    have KK101 : Keep h0 h101 [] := KK0.trans K101 all0
    have N101 := Fr.app N0 N101q
    refine own_to (V := T101.setTop (mkF m 8 #[.val (.int p0), .val (.int p1), .val (.int p2), .unset, .unset, .unset, .unset, .unset, .unset, .unset, .unset, .unset, .unset, .unset, .unset] [(.int (1 : Int32))])) ?_ st101
    refine own_to (V := T101.setTop (mkF m 9 #[.val (.int p0), .val (.int p1), .val (.int p2), .val (.int (1 : Int32)), .unset, .unset, .unset, .unset, .unset, .unset, .unset, .unset, .unset, .unset, .unset] [])) ?_ fun t k => (by
      refine XS.istoreN X101.here hx rfl (hb hby at_8) rfl (l' := #[.val (.int p0), .val (.int p1), .val (.int p2), .val (.int (1 : Int32)), .unset, .unset, .unset, .unset, .unset, .unset, .unset, .unset, .unset, .unset, .unset]) rfl ?_
      exact k)
    exact own_sgl1 l Z a0 hw hst p0 p1 p2 h0 n0 (1 : Int32) 1 hx hby hret hlk hml hnm hZ hown X101 e101 N101 Xo101 KK101 rfl (by decide)
  · skip
    subst hv101
    obtain ⟨h101, e101⟩ : ∃ z, T101.heap = z := ⟨_, rfl⟩
    rw [e101] at K101
    have Xo101 : Old Z n0 h101 := X00.keep K101 all0
    have KK101 : Keep h0 h101 [] := KK0.trans K101 all0
    have N101 := Fr.app N0 N101q
    refine own_to (V := T101.setTop (mkF m 8 #[.val (.int p0), .val (.int p1), .val (.int p2), .unset, .unset, .unset, .unset, .unset, .unset, .unset, .unset, .unset, .unset, .unset, .unset] [(.int (p0 &&& (2147483647 : Int32)))])) ?_ st101
    obtain ⟨x102, hx102⟩ : ∃ z : Int32, z = (p0 &&& (2147483647 : Int32)) := ⟨_, rfl⟩
    refine own_to (V := T101.setTop (mkF m 9 #[.val (.int p0), .val (.int p1), .val (.int p2), .val (.int x102), .unset, .unset, .unset, .unset, .unset, .unset, .unset, .unset, .unset, .unset, .unset] [])) ?_ fun t k => (by
      first | rw [hx102] at k | skip
      refine XS.istoreN X101.here hx rfl (hb hby at_8) rfl (l' := #[.val (.int p0), .val (.int p1), .val (.int p2), .val (.int (p0 &&& (2147483647 : Int32))), .unset, .unset, .unset, .unset, .unset, .unset, .unset, .unset, .unset, .unset, .unset]) rfl ?_
      exact k)
    obtain ⟨nM103, hm103, h1103⟩ : ∃ M : Nat, x102.toInt = M ∧ 1 ≤ M := own_M2 (by first | exact g101_0 | (rw [hx102]; exact g101_0))
    exact own_sgl1 l Z a0 hw hst p0 p1 p2 h0 n0 x102 nM103 hx hby hret hlk hml hnm hZ hown X101 e101 N101 Xo101 KK101 hm103 h1103
set_option maxRecDepth 65536 in
set_option maxHeartbeats 40000000 in
theorem comes_1 {Post : Tables → Env → Array Value → State → Outcome → State → Prop} (hpost : ∀ tb e args s v u, (limb_1_1.after args s (.returned v) u = true ∧ limb_1_2.after args s (.returned v) u = true ∧ True) → FrameEnd s (.returned v) u (Jvm.fieldLocs frame_1_writes args s ++ Jvm.arrayLocs frame_1_arrays args s ++ Jvm.staticLocs frame_1_statics s) 0 0 → Post tb e args s (.returned v) u) :
    ArmFor flags0 classFile x code maxLocals ret World_1 tables_1 room_1 Calls_1 rest_1 Pre_1 Post := by
  intro l hfl _ _ p e ha hc hk s m args below hf hA hF happ hP
  obtain ⟨hcalls, hrest, hpre⟩ := hP
  obtain ⟨-, -, -, hnamed, -, -, -, hat⟩ := (Spec.applies_iff hf).mp happ
  obtain ⟨hg, hn⟩ := and_e (Cond.before_iff.mp (show (Jvm.Cond.and given_1 narrow_1).before args s = true from hpre))
  obtain ⟨hcnt, gr0⟩ := and_e hg
  obtain ⟨ga0, gr1⟩ := and_e gr0
  obtain ⟨ga1, gr2⟩ := and_e gr1
  have ga2 := gr2
  obtain ⟨w0, w1, w2, rfl⟩ : ∃ w0 w1 w2 : Value, args = #[w0, w1, w2] := by
    have hs : args.size = 3 := by simpa [Cond.value, given_1] using hcnt
    obtain ⟨L⟩ := args
    match L, hs with
    | [w0, w1, w2], _ => exact ⟨w0, w1, w2, rfl⟩
  have hw := fun d (hd : d ∈ tables_1) => atoms_spec (ws := Jvm.Cond.code x code maxLocals ret :: tables_1) hat d (List.mem_cons_of_mem _ hd)
  have hfit : Fit s := fun {y c} hc i hi => by
    obtain ⟨ha, rfl⟩ := Array.getElem?_eq_some_iff.mp hc
    have q := List.all_eq_true.mp ((Array.all_eq_true_iff_forall_mem.mp hF) _ (Array.getElem_mem ha)) i (List.mem_range.mpr hi)
    simpa [Array.getElem?_eq_getElem hi] using q
  obtain ⟨i0, ei0⟩ := is_v ga0
  obtain rfl : w0 = (.int i0) := Option.some.inj ei0
  obtain ⟨i1, ei1⟩ := is_v ga1
  obtain rfl : w1 = (.int i1) := Option.some.inj ei1
  obtain ⟨i2, ei2⟩ := is_v ga2
  obtain rfl : w2 = (.int i2) := Option.some.inj ei2
  have hst : own_St s := trivial
  obtain ⟨n, o, h1, h2, h3, _, L, rfl, ⟨rfl, N, -⟩, hq⟩ := own_rmlaw l s _ hw hst tables_1 i0 i1 i2 s.heap s.heap.size (Old.start s)  p e ha hc hk s m _ below hf ((Spec.applies_iff_loose hf).mp happ).1 ⟨rfl, State.Warmed39.refl s, rfl⟩ trivial
  refine ⟨n, _, h1, h2, h3, hpost _ _ _ _ _ _ ⟨Cond.after_iff.mpr rfl, Cond.after_iff.mpr (eq_i res_at (Term.int_eval (1)) rfl), trivial⟩ ⟨hq.1, hq.2.1, (hq.2.2.sift fun y hy => Or.inr (N y hy)).mono (by decide) (by decide)⟩⟩
theorem main_1_1 : Claimed_1_1 := comes_1 fun _ _ _ _ _ _ h hF => ⟨h.1, hF⟩
theorem main_1_2 : Claimed_1_2 := comes_1 fun _ _ _ _ _ _ h hF => ⟨h.2.1, hF⟩
end Jvm.Pilot.@@N@@
namespace Jvm.Pilot.@@N@@
open Jvm Jvm.ClassFile Sem Op Lib Jvm.Free Jvm.Stand Jvm.Pilot.@@N@@.Jvm.D
/-! MADE BY PROGRAM (witnessworld.py) out of the Statement's table words and the real class files: 10 classes; the members and pool entries that the words name. The judged class is class 1, her method 1. -/
namespace start1
open Jvm.ClassFile
def u (s : String) : CpInfo := .utf8 (stringToUtf16 s)
/-- a pool by its gaps: so many unusable entries, then the entry; so many at the end -/
def gap : Nat → List CpInfo → List CpInfo
  | 0, r => r
  | n + 1, r => .unusable :: gap n r
def poolList (es : List (Nat × CpInfo)) (last : Nat) : List CpInfo := es.foldr (fun e r => gap e.1 (e.2 :: r)) (gap last [])
def pool (es : List (Nat × CpInfo)) (last : Nat) : Array CpInfo := ⟨poolList es last⟩
def fileOf (pool : Array CpInfo) (this : Nat) (attrs : Array Attribute := #[]) (ms : Array MethodInfo := #[]) (fl : Nat := 33) (sup : Nat := 0) (ifs : Array Nat := #[]) (fds : Array FieldInfo := #[]) : ClassFile where
  minorVersion := 0
  majorVersion := 65
  constantPool := pool
  accessFlags := fl
  thisClass := this
  superClass := sup
  interfaces := ifs
  fields := fds
  methods := ms
  attributes := attrs
def plain (name : String) (sup : Option ClassId) : Class where
  name := name
  kind := .ordinary
  loader := none
  accessFlags := 33
  super := sup
  interfaces := #[]
  cf := none
  fields := #[]
  methods := #[]
  instanceTypes := #[]
  staticTypes := #[]
  resolved := #[]
  callSites := []
  init := .initialized
  statics := none
  mirror := none

def pool0 : Array CpInfo := pool [(5, u "<init>"), (0, u "()V"), (1, .class_ 10), (1, u "java/lang/Object")] 113

def k0m0 : Method := { name := "<init>", desc := "()V", sig := { parameters := [], returnType := none }, accessFlags := 1, code := none }
/-- java/lang/Object -/
def k0 : Class := { plain "java/lang/Object" none with
  accessFlags := 33
  interfaces := #[]
  cf := some (fileOf pool0 8 #[] #[{ accessFlags := 1, nameIndex := 5, descriptorIndex := 6, attributes := #[] }] 33 0 #[] #[])
  fields := #[]
  methods := #[k0m0]
  instanceTypes := #[]
  staticTypes := #[]
  resolved := Array.replicate 124 none
  statics := none }

def pool1 : Array CpInfo := pool [(2, .class_ 4), (1, u "java/lang/Object"), (0, u "<init>"), (0, u "()V"), (0, .integer 2147483647), (0, .methodref 9 10), (0, .class_ 11), (0, .nameAndType 12 13), (0, u "java/lang/Math"), (0, u "max"), (0, u "(II)I"), (0, .long 2147483647), (1, .methodref 17 18), (0, .class_ 19), (0, .nameAndType 20 21), (0, u "com/example/eager_query/eagerquery/retrieval/WeightedWords"), (0, u "fallingWeight"), (0, u "(II)D"), (0, .double 4591870180066957722), (3, .integer 214748364), (0, .double 4603129179135383962), (1, .double 4605155798967700685), (1, .double 4604750475001237340), (1, .class_ 34), (0, u "com/example/eager_query/eagerquery/retrieval/WeightedWordsFallingWeightPinLaw"), (2, u "law"), (0, u "(III)Z")] 3

def k1m0 : Method := { name := "<init>", desc := "()V", sig := { parameters := [], returnType := none }, accessFlags := 1, code := none }
def k1c1 : Code := { maxStack := 5, maxLocals := 15, code := code, exceptionTable := #[], attributes := #[] }
def k1m1 : Method := { name := "law", desc := "(III)Z", sig := { parameters := [.int, .int, .int], returnType := some .boolean }, accessFlags := 9, code := some k1c1 }
/-- com/example/eager_query/eagerquery/retrieval/WeightedWordsFallingWeightPinLaw -/
def k1 : Class := { plain "com/example/eager_query/eagerquery/retrieval/WeightedWordsFallingWeightPinLaw" (some 0) with
  accessFlags := 49
  interfaces := #[]
  cf := some (fileOf pool1 33 #[] #[{ accessFlags := 1, nameIndex := 5, descriptorIndex := 6, attributes := #[] }, { accessFlags := 9, nameIndex := 37, descriptorIndex := 38, attributes := #[] }] 49 2 #[] #[])
  fields := #[]
  methods := #[k1m0, k1m1]
  instanceTypes := #[]
  staticTypes := #[]
  resolved := Array.replicate 42 none
  statics := none }

def pool2 : Array CpInfo := pool [(1, .class_ 2), (0, u "java/lang/Math"), (1, .class_ 6), (1, u "java/lang/Object"), (0, u "<init>"), (0, u "()V"), (89, .class_ 100), (1, u "java/lang/Math$RandomNumberGeneratorHolder"), (71, u "negativeZeroFloatBits"), (0, u "J"), (2, u "negativeZeroDoubleBits"), (21, u "max"), (46, u "$assertionsDisabled"), (0, u "Z"), (88, u "(II)I"), (2, u "twoToTheDoubleScaleDown"), (0, u "D"), (4, u "twoToTheDoubleScaleUp"), (9, u "E"), (3, u "PI"), (2, u "TAU"), (2, u "DEGREES_TO_RADIANS"), (0, u "RADIANS_TO_DEGREES")] 94

def k2m0 : Method := { name := "<init>", desc := "()V", sig := { parameters := [], returnType := none }, accessFlags := 2, code := none }
def k2c1 : Code := { maxStack := 2, maxLocals := 2, code := jdk_29_method_65_code, exceptionTable := #[], attributes := #[] }
def k2m1 : Method := { name := "max", desc := "(II)I", sig := { parameters := [.int, .int], returnType := some .int }, accessFlags := 9, code := some k2c1 }
/-- java/lang/Math -/
def k2 : Class := { plain "java/lang/Math" (some 0) with
  accessFlags := 49
  interfaces := #[]
  cf := some (fileOf pool2 1 #[.nestMembers #[98]] #[{ accessFlags := 2, nameIndex := 7, descriptorIndex := 8, attributes := #[] }, { accessFlags := 9, nameIndex := 198, descriptorIndex := 335, attributes := #[] }] 49 4 #[] #[{ accessFlags := 25, nameIndex := 354, descriptorIndex := 339, attributes := #[] }, { accessFlags := 25, nameIndex := 358, descriptorIndex := 339, attributes := #[] }, { accessFlags := 25, nameIndex := 361, descriptorIndex := 339, attributes := #[] }, { accessFlags := 26, nameIndex := 364, descriptorIndex := 339, attributes := #[] }, { accessFlags := 26, nameIndex := 365, descriptorIndex := 339, attributes := #[] }, { accessFlags := 26, nameIndex := 172, descriptorIndex := 173, attributes := #[] }, { accessFlags := 26, nameIndex := 176, descriptorIndex := 173, attributes := #[] }, { accessFlags := 8, nameIndex := 344, descriptorIndex := 339, attributes := #[] }, { accessFlags := 8, nameIndex := 338, descriptorIndex := 339, attributes := #[] }, { accessFlags := 4120, nameIndex := 245, descriptorIndex := 246, attributes := #[] }])
  fields := #[{ name := "E", type := .double, accessFlags := 25, slot := 0, constantValue := 0 }, { name := "PI", type := .double, accessFlags := 25, slot := 1, constantValue := 0 }, { name := "TAU", type := .double, accessFlags := 25, slot := 2, constantValue := 0 }, { name := "DEGREES_TO_RADIANS", type := .double, accessFlags := 26, slot := 3, constantValue := 0 }, { name := "RADIANS_TO_DEGREES", type := .double, accessFlags := 26, slot := 4, constantValue := 0 }, { name := "negativeZeroFloatBits", type := .long, accessFlags := 26, slot := 5, constantValue := 0 }, { name := "negativeZeroDoubleBits", type := .long, accessFlags := 26, slot := 6, constantValue := 0 }, { name := "twoToTheDoubleScaleUp", type := .double, accessFlags := 8, slot := 7, constantValue := 0 }, { name := "twoToTheDoubleScaleDown", type := .double, accessFlags := 8, slot := 8, constantValue := 0 }, { name := "$assertionsDisabled", type := .boolean, accessFlags := 4120, slot := 9, constantValue := 0 }]
  methods := #[k2m0, k2m1]
  instanceTypes := #[]
  staticTypes := #[.double, .double, .double, .double, .double, .long, .long, .double, .double, .boolean]
  resolved := Array.replicate 460 none
  statics := none }

def pool3 : Array CpInfo := pool [(2, .class_ 4), (1, u "java/lang/Object"), (0, u "<init>"), (0, u "()V"), (4, .class_ 13), (1, u "com/example/eager_query/eagerquery/retrieval/WeightedWords"), (0, u "dotProducts"), (0, u "Ljava/util/Map;"), (1, .long 10), (33, .long 9), (15, u "squares"), (0, u "D"), (2, u "words"), (0, u "I"), (43, u "WEIGHT_SCALE"), (0, u "J"), (1, u "WEIGHT_STEP"), (8, u "fallingWeight"), (0, u "(II)D")] 41

def k3m0 : Method := { name := "<init>", desc := "()V", sig := { parameters := [], returnType := none }, accessFlags := 0, code := none }
def k3c1 : Code := { maxStack := 6, maxLocals := 4, code := prog_36_method_3_code, exceptionTable := #[], attributes := #[] }
def k3m1 : Method := { name := "fallingWeight", desc := "(II)D", sig := { parameters := [.int, .int], returnType := some .double }, accessFlags := 8, code := some k3c1 }
/-- com/example/eager_query/eagerquery/retrieval/WeightedWords -/
def k3 : Class := { plain "com/example/eager_query/eagerquery/retrieval/WeightedWords" (some 0) with
  accessFlags := 32
  interfaces := #[]
  cf := some (fileOf pool3 11 #[] #[{ accessFlags := 0, nameIndex := 5, descriptorIndex := 6, attributes := #[] }, { accessFlags := 8, nameIndex := 128, descriptorIndex := 129, attributes := #[] }] 32 2 #[] #[{ accessFlags := 26, nameIndex := 116, descriptorIndex := 117, attributes := #[] }, { accessFlags := 26, nameIndex := 119, descriptorIndex := 117, attributes := #[] }, { accessFlags := 18, nameIndex := 14, descriptorIndex := 15, attributes := #[] }, { accessFlags := 2, nameIndex := 67, descriptorIndex := 68, attributes := #[] }, { accessFlags := 2, nameIndex := 71, descriptorIndex := 72, attributes := #[] }])
  fields := #[{ name := "WEIGHT_SCALE", type := .long, accessFlags := 26, slot := 0, constantValue := 0 }, { name := "WEIGHT_STEP", type := .long, accessFlags := 26, slot := 1, constantValue := 0 }, { name := "dotProducts", type := (.object "java/util/Map"), accessFlags := 18, slot := 0, constantValue := 0 }, { name := "squares", type := .double, accessFlags := 2, slot := 1, constantValue := 0 }, { name := "words", type := .int, accessFlags := 2, slot := 2, constantValue := 0 }]
  methods := #[k3m0, k3m1]
  instanceTypes := #[(.object "java/util/Map"), .double, .int]
  staticTypes := #[.long, .long]
  resolved := Array.replicate 171 none
  statics := none }

def pool4 : Array CpInfo := pool [(1, u "java/lang/Cloneable"), (0, .class_ 1), (0, u "java/lang/Object"), (0, .class_ 3)] 3

/-- java/lang/Cloneable -/
def k4 : Class := { plain "java/lang/Cloneable" (some 0) with
  accessFlags := 1537
  interfaces := #[]
  cf := some (fileOf pool4 2 #[] #[] 1537 4 #[] #[])
  fields := #[]
  methods := #[]
  instanceTypes := #[]
  staticTypes := #[]
  resolved := Array.replicate 8 none
  statics := none }

def pool5 : Array CpInfo := pool [(1, u "java/io/Serializable"), (0, .class_ 1), (0, u "java/lang/Object"), (0, .class_ 3)] 3

/-- java/io/Serializable -/
def k5 : Class := { plain "java/io/Serializable" (some 0) with
  accessFlags := 1537
  interfaces := #[]
  cf := some (fileOf pool5 2 #[] #[] 1537 4 #[] #[])
  fields := #[]
  methods := #[]
  instanceTypes := #[]
  staticTypes := #[]
  resolved := Array.replicate 8 none
  statics := none }

/-- the primitive byte -/
def k6 : Class := { plain "byte" none with kind := .primitive 'B', accessFlags := 0x411 }
/-- [B -/
def k7 : Class := { plain "[B" (some 0) with kind := .array 6 .byte, interfaces := #[4, 5], accessFlags := 1041 }

/-- the primitive int -/
def k8 : Class := { plain "int" none with kind := .primitive 'I', accessFlags := 0x411 }
/-- [I -/
def k9 : Class := { plain "[I" (some 0) with kind := .array 8 .int, interfaces := #[4, 5], accessFlags := 1041 }

def heap : Heap := #[]
def classes : Array Class := #[k0, k1, k2, k3, k4, k5, k6, k7, k8, k9]
def interned : List (Array UInt16 × Addr) := []
def slotsUsed : Nat := 0
def theMethod : MethodId := ⟨1, 1⟩
def args0 : Array Value := #[.int 5, .int 5, .int 5]
def aboutOver (below : List Frame) : State where
  vm := { classes := classes, interned := interned.toArray }
  heap := heap
  slotsUsed := slotsUsed
  threads := #[{ frames := .invoking theMethod args0 :: below }]
def below0 : List Frame := [.native { method := ⟨0, 0⟩, args := #[] }]
def about1 : State := aboutOver below0
def p0 : Program := .bare "" "" ""
def e0 : Env := launch0.env 0 0 0
theorem w_frames : about1.frames = Frame.invoking theMethod args0 :: below0 := rfl
set_option maxRecDepth 65536 in
theorem w_args : argsFit about1.vm theMethod args0 = true := by decide +kernel
set_option maxRecDepth 65536 in
theorem w_heap : heapFits about1 = true := by decide +kernel
set_option maxRecDepth 65536 in
theorem w_runnable : about1.curStatus? = some .runnable := by decide +kernel
set_option maxRecDepth 65536 in
theorem w_alone : about1.alone = true := by decide +kernel
set_option maxRecDepth 65536 in
theorem w_named : about1.methodNamed? x = some theMethod := by decide +kernel
set_option maxRecDepth 65536 in
theorem w_hears : about1.hears theMethod below0 = true := by decide +kernel
set_option maxRecDepth 65536 in
theorem w_ripe : about1.ripe theMethod args0 below0 = true := by decide +kernel
theorem w_running : about1.status = .running := rfl
set_option maxRecDepth 65536 in
theorem w_room : about1.hasRoom e0.platform room_1 = true :=
  launch0.hasRoom_least _ room_1 (by decide +kernel) (by decide +kernel) (by decide +kernel) (by decide +kernel) (by decide +kernel) (by decide +kernel)
theorem allAtoms_all (ts : List Jvm.Cond) (a : Array Jvm.Value) (st : Jvm.State) : (allAtoms ts).before a st = ts.all (fun c => c.before a st) := by
  induction ts with
  | nil => rfl
  | cons c t ih =>
    show (Jvm.Cond.and c (allAtoms t)).before a st = _
    rw [Jvm.Cond.before_and, ih, List.all_cons]
def words1 : List Jvm.Cond := Jvm.Cond.code x code maxLocals ret :: tables_1
/-- a 'code' word, met by the world's own term for the bytes: nothing is compared byte by byte -/
theorem code_word {y : MethodName} {bytes : ByteArray} {mx : Nat} {rt : Option FieldType} {a : Array Value} {s : State} {m : MethodId} {meth : Method} {c : Code} (h1 : s.methodNamed? y = some m) (h2 : s.vm.method? m = some meth) (h3 : meth.code = some c) (h4 : c.code = bytes)
    (h5 : (c.maxLocals == mx && c.exceptionTable.isEmpty && decide (c.maxStack ≤ mostOperands) && decide (meth.sig.returnType = rt) && !meth.locks && decide (parseMethodDescriptor y.desc = some meth.sig)) = true) : (Jvm.Cond.code y bytes mx rt).before a s = true := by
  simp only [Bool.and_eq_true, beq_iff_eq, Bool.not_eq_true', decide_eq_true_eq] at h5
  obtain ⟨⟨⟨⟨⟨g1, g2⟩, g3⟩, g4⟩, g5⟩, g6⟩ := h5
  simp [Cond.before, Cond.holds, Cond.value, h1, h2, h3, h4, g1, g2, g3, g4, g5, g6]
def isCode : Jvm.Cond → Bool
  | .code _ _ _ _ => true
  | _ => false
theorem all_split {L : List Jvm.Cond} {P : Jvm.Cond → Bool} (h1 : L.all (fun c => isCode c || P c) = true) (h2 : ∀ c ∈ L.filter isCode, P c = true) : L.all P = true := by
  refine List.all_eq_true.mpr fun c hc => ?_
  have h := List.all_eq_true.mp h1 c hc
  rcases Bool.eq_false_or_eq_true (isCode c) with hi | hi
  · exact h2 c (List.mem_filter.mpr ⟨hc, hi⟩)
  · simpa [hi] using h
set_option maxRecDepth 65536 in
theorem w_c0 : (Jvm.Cond.code x code maxLocals ret).before args0 about1 = true := code_word (m := ⟨1, 1⟩) (meth := k1m1) (c := k1c1) (by decide +kernel) rfl rfl rfl (by decide +kernel)
set_option maxRecDepth 65536 in
theorem w_c1 : (Jvm.Cond.code ({ cls := "java/lang/Math", name := "max", desc := "(II)I" } : Jvm.MethodName) jdk_29_method_65_code (2 : Nat) (Option.some Jvm.ClassFile.FieldType.int)).before args0 about1 = true := code_word (m := ⟨2, 1⟩) (meth := k2m1) (c := k2c1) (by decide +kernel) rfl rfl rfl (by decide +kernel)
set_option maxRecDepth 65536 in
theorem w_c2 : (Jvm.Cond.code ({ cls := "com/example/eager_query/eagerquery/retrieval/WeightedWords", name := "fallingWeight", desc := "(II)D" } : Jvm.MethodName) prog_36_method_3_code (4 : Nat) (Option.some Jvm.ClassFile.FieldType.double)).before args0 about1 = true := code_word (m := ⟨3, 1⟩) (meth := k3m1) (c := k3c1) (by decide +kernel) rfl rfl rfl (by decide +kernel)
def codes1 : List Jvm.Cond := [Jvm.Cond.code x code maxLocals ret, Jvm.Cond.code ({ cls := "java/lang/Math", name := "max", desc := "(II)I" } : Jvm.MethodName) jdk_29_method_65_code (2 : Nat) (Option.some Jvm.ClassFile.FieldType.int), Jvm.Cond.code ({ cls := "com/example/eager_query/eagerquery/retrieval/WeightedWords", name := "fallingWeight", desc := "(II)D" } : Jvm.MethodName) prog_36_method_3_code (4 : Nat) (Option.some Jvm.ClassFile.FieldType.double)]
set_option maxRecDepth 65536 in
theorem codes_eq : words1.filter isCode = codes1 := rfl
theorem w_codes : ∀ c ∈ words1.filter isCode, c.before args0 about1 = true := by
  rw [codes_eq]
  intro c hc
  simp only [codes1, List.mem_cons, List.not_mem_nil, or_false] at hc
  rcases hc with rfl | rfl | rfl
  · exact w_c0
  · exact w_c1
  · exact w_c2
set_option maxRecDepth 65536 in
theorem w_t1 : words1.all (fun c => isCode c || c.before args0 about1) = true := by decide +kernel
theorem w_tables : (allAtoms (Jvm.Cond.code x code maxLocals ret :: tables_1)).before args0 about1 = true := by
  rw [allAtoms_all]
  show words1.all (fun c => c.before args0 about1) = true
  refine all_split ?_ w_codes
  rw [w_t1]
set_option maxRecDepth 65536 in
theorem w_case : (Jvm.Cond.and given_1 narrow_1).before args0 about1 = true := by decide +kernel
theorem w_applies : (headSpec (Jvm.Cond.code x code maxLocals ret :: tables_1) room_1).applies x e0.platform about1 = true :=
  (Spec.applies_iff w_frames).mpr ⟨w_running, w_runnable, w_alone, w_named, w_hears, w_ripe, w_room, w_tables⟩
theorem atStart : AtStart classFile x code maxLocals ret World_1 tables_1 room_1 Calls_1 rest_1 Pre_1 launch0 p0 e0 about1 theMethod args0 below0 :=
  ⟨lists_1, trivial, launch0.admits_env _ _ _, launch0.least_env, fairChoices_fair.cas, fairChoices_fair.clock, w_frames, w_args, w_heap, w_applies, trivial, trivial, w_case⟩
end start1
theorem witness_1 : WitnessClaimed_1 := ⟨start1.p0, start1.e0, start1.about1, start1.theMethod, start1.args0, start1.below0, start1.atStart⟩
end Jvm.Pilot.@@N@@
