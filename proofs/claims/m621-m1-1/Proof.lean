import JvmDerived
import JvmDerived.Pilot.@@N@@Statement
import JvmDerived.Pilot.@@N@@Code
set_option linter.unusedVariables false
set_option linter.unusedSimpArgs false
namespace Jvm.RoadKit
open Sem ClassFile Op Lib Jvm.Stand Jvm.Free Jvm.LawKit
section OwnNew
variable {p : Program} {l : Launch} {e : Env} {R : Room} {s : State} {m : MethodId} {args : Array Value} {below : List Frame} {meth : Method} {c : Code} {T : State} {locs : List Loc} {cells slots : Nat}
/-- from S0 the run comes to the method's return, with what Q says there -/
def OwnEnds (p : Program) (e : Env) (below : List Frame) (s : State) (Q : Option Value → Heap → List Loc → Prop) (ck sk : Nat) (S0 : State) : Prop :=
  ∃ s₂ o, Steps p.tables e below S0 s₂ ∧ s₂.status = .running ∧ Ended s₂ below o ∧ ∃ v L, o = .returned v ∧ Q v s₂.heap L ∧ FrameEnd s o s₂ L ck sk
theorem OwnEnds.st {Q : Option Value → Heap → List Loc → Prop} {ck sk : Nat} {S0 S1 : State} (h : ∀ t, Steps p.tables e below S1 t → Steps p.tables e below S0 t) (k : OwnEnds p e below s Q ck sk S1) : OwnEnds p e below s Q ck sk S0 := by
  obtain ⟨s₂, o, h1, h2⟩ := k
  exact ⟨s₂, o, h _ h1, h2⟩
theorem OwnEnds.go {Q : Option Value → Heap → List Loc → Prop} {ck sk : Nat} {S0 S1 : State} (h : Steps p.tables e below S0 S1) (k : OwnEnds p e below s Q ck sk S1) : OwnEnds p e below s Q ck sk S0 := by
  obtain ⟨s₂, o, h1, h2⟩ := k
  exact ⟨s₂, o, h.trans h1, h2⟩
theorem own_out (X : Stand p l e R s m args below meth c T locs cells slots) (hx : p.tables.exec = Jvm.exec) {pc : Nat} {Ls : Array Slot} {w : Value} {t : FieldType} {i : Instr} {rest : List Value} (hret : meth.sig.returnType = some t) (hlocks : meth.locks = false) (hn : narrow t w = w)
    (hi : (i = .ireturn ∧ (t = .int ∨ t = .boolean ∨ t = .byte ∨ t = .char ∨ t = .short) ∧ ∃ z, w = .int z) ∨ (i = .lreturn ∧ t = .long ∧ ∃ z, w = .long z) ∨ (i = .dreturn ∧ t = .double ∧ ∃ z, w = .double z) ∨ (i = .freturn ∧ t = .float ∧ ∃ z, w = .float z) ∨ (i = .areturn ∧ t.isReference = true ∧ w.isRef = true))
    (hd : decode c.code pc = .ok (i, 1)) {Q : Option Value → Heap → List Loc → Prop} {ck sk : Nat} (hQ : Q (some w) T.heap locs) (hc : cells ≤ ck) (hs : slots ≤ sk) : OwnEnds p e below s Q ck sk (T.setTop (mkF m pc Ls (w :: rest))) := by
  obtain ⟨fs, hr, hrun, hended, hW, hsame⟩ := X.leave (v := some w) (fun h => by rw [hret] at h; cases h) hlocks
  exact ⟨_, _, retOut X hx hret hn hi hd hr, hrun, hended, _, _, rfl, hQ, ⟨_, rfl⟩, hW, hsame.mono hc hs⟩
theorem own_retI (X : Stand p l e R s m args below meth c T locs cells slots) (hx : p.tables.exec = Jvm.exec) {pc : Nat} {Ls : Array Slot} {z : Int32} {rest : List Value} (hret : meth.sig.returnType = some .int) (hlocks : meth.locks = false) (hd : decode c.code pc = .ok (.ireturn, 1))
    {Q : Option Value → Heap → List Loc → Prop} {ck sk : Nat} (hQ : Q (some (.int z)) T.heap locs) (hc : cells ≤ ck) (hs : slots ≤ sk) : OwnEnds p e below s Q ck sk (T.setTop (mkF m pc Ls (.int z :: rest))) :=
  own_out X hx hret hlocks rfl (Or.inl ⟨rfl, Or.inl rfl, _, rfl⟩) hd hQ hc hs
theorem own_retJ (X : Stand p l e R s m args below meth c T locs cells slots) (hx : p.tables.exec = Jvm.exec) {pc : Nat} {Ls : Array Slot} {z : Int64} {rest : List Value} (hret : meth.sig.returnType = some .long) (hlocks : meth.locks = false) (hd : decode c.code pc = .ok (.lreturn, 1))
    {Q : Option Value → Heap → List Loc → Prop} {ck sk : Nat} (hQ : Q (some (.long z)) T.heap locs) (hc : cells ≤ ck) (hs : slots ≤ sk) : OwnEnds p e below s Q ck sk (T.setTop (mkF m pc Ls (.long z :: rest))) :=
  own_out X hx hret hlocks rfl (Or.inr (Or.inl ⟨rfl, rfl, _, rfl⟩)) hd hQ hc hs
theorem own_retD (X : Stand p l e R s m args below meth c T locs cells slots) (hx : p.tables.exec = Jvm.exec) {pc : Nat} {Ls : Array Slot} {z : UInt64} {rest : List Value} (hret : meth.sig.returnType = some .double) (hlocks : meth.locks = false) (hd : decode c.code pc = .ok (.dreturn, 1))
    {Q : Option Value → Heap → List Loc → Prop} {ck sk : Nat} (hQ : Q (some (.double z)) T.heap locs) (hc : cells ≤ ck) (hs : slots ≤ sk) : OwnEnds p e below s Q ck sk (T.setTop (mkF m pc Ls (.double z :: rest))) :=
  own_out X hx hret hlocks rfl (Or.inr (Or.inr (Or.inl ⟨rfl, rfl, _, rfl⟩))) hd hQ hc hs
theorem own_retA (X : Stand p l e R s m args below meth c T locs cells slots) (hx : p.tables.exec = Jvm.exec) {pc : Nat} {Ls : Array Slot} {w : Value} {t : FieldType} {rest : List Value} (hret : meth.sig.returnType = some t) (hlocks : meth.locks = false) (ht : t.isReference = true) (hw : w.isRef = true) (hd : decode c.code pc = .ok (.areturn, 1))
    {Q : Option Value → Heap → List Loc → Prop} {ck sk : Nat} (hQ : Q (some w) T.heap locs) (hc : cells ≤ ck) (hs : slots ≤ sk) : OwnEnds p e below s Q ck sk (T.setTop (mkF m pc Ls (w :: rest))) :=
  own_out X hx hret hlocks (by cases t <;> first | rfl | cases ht) (Or.inr (Or.inr (Or.inr (Or.inr ⟨rfl, ht, hw⟩)))) hd hQ hc hs
theorem own_retN (X : Stand p l e R s m args below meth c T locs cells slots) (hx : p.tables.exec = Jvm.exec) {pc : Nat} {Ls : Array Slot} {z : Int32} {t : FieldType} {rest : List Value} (hret : meth.sig.returnType = some t) (hlocks : meth.locks = false) (ht : t = .boolean ∨ t = .byte ∨ t = .char ∨ t = .short) (hd : decode c.code pc = .ok (.ireturn, 1))
    {Q : Option Value → Heap → List Loc → Prop} {ck sk : Nat} (hQ : Q (some (.int (nar t z))) T.heap locs) (hc : cells ≤ ck) (hs : slots ≤ sk) : OwnEnds p e below s Q ck sk (T.setTop (mkF m pc Ls (.int z :: rest))) := by
  obtain ⟨fs, hr, hrun, hended, hW, hsame⟩ := X.leave (v := some (.int (nar t z))) (fun h => by rw [hret] at h; cases h) hlocks
  exact ⟨_, _, retN X hx hret ht hd hr, hrun, hended, _, _, rfl, hQ, ⟨_, rfl⟩, hW, hsame.mono hc hs⟩
theorem own_retV (X : Stand p l e R s m args below meth c T locs cells slots) (hx : p.tables.exec = Jvm.exec) {pc : Nat} {Ls : Array Slot} (hret : meth.sig.returnType = none) (hlocks : meth.locks = false) (hd : decode c.code pc = .ok (.return_, 1))
    {Q : Option Value → Heap → List Loc → Prop} {ck sk : Nat} (hQ : Q none T.heap locs) (hc : cells ≤ ck) (hs : slots ≤ sk) : OwnEnds p e below s Q ck sk (T.setTop (mkF m pc Ls [])) := by
  obtain ⟨fs, hr, hrun, hended, hW, hsame⟩ := X.leave (v := none) (fun _ => rfl) hlocks
  exact ⟨_, _, X.returnOut hx hret hd hr, hrun, hended, _, _, rfl, hQ, ⟨_, rfl⟩, hW, hsame.mono hc hs⟩
end OwnNew
end Jvm.RoadKit
@@BLOCK:NumsL.lean.txt@@
namespace Jvm.FP.Core.OwnFl
open Jvm.FP.Core
/-- the value in units of 2^-1074 -/
def zv (x : UInt64) : Int := zval b64 (val64 x)
theorem nn {x : UInt64} (h : DFin x) : Jvm.Free.Fl.NoNaN64 x := Jvm.Free.Fl.noNaN64_no.mpr h.notNaN
theorem one_pos : (0 : Int) < (one64 : Int) := by have := one64_pos; omega
theorem zmag_nat (d : Datum) : zmag b64 d = (zval b64 d).natAbs := (natAbs_signed _ _).symm
theorem fin_of {r : UInt64} (hn : val64 r ≠ .nan) (hz : zmag b64 (val64 r) < b64.tails * 2 ^ (b64.exps - 2)) : DFin r := by
  cases h : val64 r with
  | nan => exact absurd h hn
  | inf s => rw [h] at hz; exact absurd hz (Nat.lt_irrefl _)
  | fin s c q => exact ⟨s, c, q, h⟩
theorem rep_q {k : Nat} (hk : k ≤ 2045) : b64.qmin + (k : Int) ≤ b64.qmax := by
  have h3 := qmax_qmin b64
  have h4 : b64.emax = 1023 := by decide
  omega
/-- n * 2^k units is a double, for n of at most 53 digits -/
theorem rep (n : Int) (k : Nat) (hn : n.natAbs < 2 ^ 53) (hk : k ≤ 2045) : ∃ V, fits b64 V ∧ (∃ s c q, V = .fin s c q) ∧ zval b64 V = n * ((2 ^ k : Nat) : Int) := by
  obtain ⟨c', q', h1, h2⟩ := round_exact good_b64 (decide (n < 0)) (c := n.natAbs) (q := b64.qmin + k) hn (by omega) (rep_q hk)
  refine ⟨.fin (decide (n < 0)) c' q', ?_, ⟨_, _, _, rfl⟩, ?_⟩
  · rw [← h1]; exact round_fits good_b64 _
  · show signed (decide (n < 0)) (inUnits c' q' b64.qmin) = _
    rw [h2]
    unfold inUnits
    rw [signed_mul, show (b64.qmin + (k : Int) - b64.qmin).toNat = k by omega]
    congr 1
    unfold signed
    by_cases h5 : n < 0
    · rw [if_pos (decide_eq_true h5)]; omega
    · rw [if_neg (by simp [h5])]; omega
theorem fin_ne {V : Datum} (h : ∃ s c q, V = .fin s c q) : V ≠ .nan := by obtain ⟨s, c, q, rfl⟩ := h; exact Datum.noConfusion
theorem fin_to {r : UInt64} {V : Datum} (hn : dIsNaN r = false) (fV : fits b64 V) (hV : ∃ s c q, V = .fin s c q) (h : zv r = zval b64 V) : DFin r := by
  refine fin_of ((notNaN_iff r).mp hn) ?_
  rw [zmag_nat, show zval b64 (val64 r) = zval b64 V from h, ← zmag_nat]
  obtain ⟨s, c, q, rfl⟩ := hV
  exact zmag_lt_top good_b64 fV
theorem dadd_z {a b : UInt64} (ha : DFin a) (hb : DFin b) {V : Datum} (fV : fits b64 V) (hV : ∃ s c q, V = .fin s c q) (h : zv a + zv b = zval b64 V) : DFin (dadd a b) ∧ zv (dadd a b) = zv a + zv b := by
  have h1 := sum_le good_b64 ha hb (val64_fits a) (val64_fits b) fV (fin_ne hV) (Int.le_of_eq h)
  have h2 := sum_ge good_b64 ha hb (val64_fits a) (val64_fits b) fV (fin_ne hV) (Int.le_of_eq h.symm)
  rw [← val64_dadd] at h1 h2
  have h3 : zv (dadd a b) = zval b64 V := Int.le_antisymm h1 h2
  exact ⟨fin_to (dadd_out' ha hb.notNaN) fV hV h3, h3.trans h.symm⟩
theorem signed_prod (s t : Bool) (x y : Nat) : signed (s != t) (x * y) = signed s x * signed t y := by
  cases s <;> cases t <;> simp [signed, Int.natCast_mul, Int.neg_mul, Int.mul_neg]
theorem prod_z {a b : UInt64} (ha : DFin a) (hb : DFin b) : ∃ s n e, exactProduct (val64 a) (val64 b) = .fin s n e ∧ 2 * b64.qmin ≤ e ∧ signed s (inUnits n e (2 * b64.qmin)) = zv a * zv b := by
  obtain ⟨s, c, q, h1⟩ := ha
  obtain ⟨t, d, r, h2⟩ := hb
  have f1 := val64_fits a
  have f2 := val64_fits b
  rw [h1] at f1
  rw [h2] at f2
  obtain ⟨p1, p2, p3⟩ := product_units f1 f2
  refine ⟨_, _, _, by rw [h1, h2]; exact p1, p2, ?_⟩
  rw [p3]
  unfold zv zval
  rw [h1, h2]
  exact signed_prod s t _ _
theorem two_q : ((2 ^ (b64.qmin - 2 * b64.qmin).toNat : Nat) : Int) = (one64 : Int) := by
  rw [show b64.qmin - 2 * b64.qmin = -b64.qmin by omega, pow_qmin64]
theorem dmul_le {a b : UInt64} (ha : DFin a) (hb : DFin b) {V : Datum} (fV : fits b64 V) (hV : V ≠ .nan) (h : zv a * zv b ≤ zval b64 V * (one64 : Int)) : zv (dmul a b) ≤ zval b64 V := by
  obtain ⟨s, n, e, h1, h2, h3⟩ := prod_z ha hb
  unfold zv
  rw [val64_dmul, h1]
  refine zval_round_le good_b64 fV hV (e0 := 2 * b64.qmin) (by rw [qmin_b64]; decide) h2 ?_
  rw [h3, two_q]; exact h
theorem dmul_ge {a b : UInt64} (ha : DFin a) (hb : DFin b) {V : Datum} (fV : fits b64 V) (hV : V ≠ .nan) (h : zval b64 V * (one64 : Int) ≤ zv a * zv b) : zval b64 V ≤ zv (dmul a b) := by
  obtain ⟨s, n, e, h1, h2, h3⟩ := prod_z ha hb
  unfold zv
  rw [val64_dmul, h1]
  refine zval_round_ge good_b64 fV hV (e0 := 2 * b64.qmin) (by rw [qmin_b64]; decide) h2 ?_
  rw [h3, two_q]; exact h
theorem dmul_z {a b : UInt64} (ha : DFin a) (hb : DFin b) {V : Datum} (fV : fits b64 V) (hV : ∃ s c q, V = .fin s c q) (h : zv a * zv b = zval b64 V * (one64 : Int)) : DFin (dmul a b) ∧ zv (dmul a b) = zval b64 V := by
  have h3 : zv (dmul a b) = zval b64 V := Int.le_antisymm (dmul_le ha hb fV (fin_ne hV) (Int.le_of_eq h)) (dmul_ge ha hb fV (fin_ne hV) (Int.le_of_eq h.symm))
  exact ⟨fin_to (dmul_out ha hb) fV hV h3, h3⟩
theorem scale {x y α β γ δ : Nat} (h : α + δ = β + γ) : x * 2 ^ α ≤ y * 2 ^ β ↔ x * 2 ^ γ ≤ y * 2 ^ δ := by
  have p1 := Nat.two_pow_pos δ
  have p2 := Nat.two_pow_pos β
  have e1 : x * 2 ^ α * 2 ^ δ = x * 2 ^ γ * 2 ^ β := by rw [Nat.mul_assoc, Nat.mul_assoc, ← Nat.pow_add, ← Nat.pow_add, h, Nat.add_comm]
  have e2 : y * 2 ^ β * 2 ^ δ = y * 2 ^ δ * 2 ^ β := Nat.mul_right_comm ..
  constructor
  · intro k; exact Nat.le_of_mul_le_mul_right (by rw [← e1, ← e2]; exact Nat.mul_le_mul_right _ k) p2
  · intro k; exact Nat.le_of_mul_le_mul_right (by rw [e1, e2]; exact Nat.mul_le_mul_right _ k) p1
theorem scale' {x y α β γ δ : Nat} (h : α + δ = β + γ) : y * 2 ^ β ≤ x * 2 ^ α ↔ y * 2 ^ δ ≤ x * 2 ^ γ := scale (by omega)
theorem quot_z {a b : UInt64} (ha : DFin a) (hb : DFin b) (hz : zv b ≠ 0) : ∃ A B e, val64 (ddiv a b) = roundRatio b64 (sgn (val64 a) != sgn (val64 b)) A B e ∧ 0 < B ∧
    ∀ e0, e0 ≤ b64.qmin → e0 ≤ e → ∀ v, (inUnits A e e0 ≤ v * 2 ^ (b64.qmin - e0).toNat * B ↔ (zv a).natAbs * one64 ≤ v * (zv b).natAbs) ∧ (v * 2 ^ (b64.qmin - e0).toNat * B ≤ inUnits A e e0 ↔ v * (zv b).natAbs ≤ (zv a).natAbs * one64) := by
  obtain ⟨s, c, q, h1⟩ := ha
  obtain ⟨t, d, r, h2⟩ := hb
  have f1 := val64_fits a
  have f2 := val64_fits b
  rw [h1] at f1
  rw [h2] at f2
  have z1 : (zv a).natAbs = c * 2 ^ (q - b64.qmin).toNat := by unfold zv zval; rw [natAbs_signed, h1]; rfl
  have z2 : (zv b).natAbs = d * 2 ^ (r - b64.qmin).toNat := by unfold zv zval; rw [natAbs_signed, h2]; rfl
  have hd : d ≠ 0 := by
    intro hd
    rw [hd, Nat.zero_mul] at z2
    omega
  refine ⟨c, d, q - r, ?_, by omega, fun e0 k1 k2 v => ?_⟩
  · rw [val64_ddiv, h1, h2]
    show (if d = 0 then _ else roundRatio b64 (s != t) c d (q - r)) = _
    rw [if_neg hd]; rfl
  · have g1 := f1.2.1
    have g2 := f2.2.1
    have eA : (zv a).natAbs * one64 = c * 2 ^ ((q - b64.qmin).toNat + (-b64.qmin).toNat) := by rw [z1, ← pow_qmin64, Nat.mul_assoc, ← Nat.pow_add]
    have eB : v * (zv b).natAbs = v * d * 2 ^ (r - b64.qmin).toNat := by rw [z2, Nat.mul_assoc]
    have eC : v * 2 ^ (b64.qmin - e0).toNat * d = v * d * 2 ^ (b64.qmin - e0).toNat := Nat.mul_right_comm ..
    have hs : (q - r - e0).toNat + (r - b64.qmin).toNat = (b64.qmin - e0).toNat + ((q - b64.qmin).toNat + (-b64.qmin).toNat) := by
      have := qmin_b64
      omega
    rw [eA, eB, eC]
    exact ⟨scale hs, scale' hs⟩
theorem ddiv_sgn {a b : UInt64} (ha : DFin a) (hb : DFin b) (hz : zv b ≠ 0) : sgn (val64 (ddiv a b)) = (sgn (val64 a) != sgn (val64 b)) := by
  obtain ⟨A, B, e, h1, h2, h3⟩ := quot_z ha hb hz
  rw [h1, sgn_roundRatio]
theorem ddiv_le {a b : UInt64} (ha : DFin a) (hb : DFin b) (hz : zv b ≠ 0) {V : Datum} (fV : fits b64 V) (hV : V ≠ .nan) (h : (zv a).natAbs * one64 ≤ zmag b64 V * (zv b).natAbs) : zmag b64 (val64 (ddiv a b)) ≤ zmag b64 V := by
  obtain ⟨A, B, e, h1, h2, h3⟩ := quot_z ha hb hz
  rw [h1]
  exact zmag_roundRatio_le good_b64 h2 fV hV (Int.min_le_left _ _) (Int.min_le_right _ _) ((h3 (min b64.qmin e) (Int.min_le_left _ _) (Int.min_le_right _ _) _).1.mpr h)
theorem ddiv_ge {a b : UInt64} (ha : DFin a) (hb : DFin b) (hz : zv b ≠ 0) {V : Datum} (fV : fits b64 V) (h : zmag b64 V * (zv b).natAbs ≤ (zv a).natAbs * one64) : zmag b64 V ≤ zmag b64 (val64 (ddiv a b)) := by
  obtain ⟨A, B, e, h1, h2, h3⟩ := quot_z ha hb hz
  rw [h1]
  exact zmag_roundRatio_ge good_b64 h2 fV (Int.min_le_left _ _) (Int.min_le_right _ _) ((h3 (min b64.qmin e) (Int.min_le_left _ _) (Int.min_le_right _ _) _).2.mpr h)
theorem nz_of {b : UInt64} (hb : DFin b) (hz : zv b ≠ 0) : ¬ DZero b := by
  rintro ⟨s, q, h⟩
  apply hz
  unfold zv zval
  rw [h]
  show signed s (inUnits 0 q b64.qmin) = 0
  unfold inUnits
  rw [Nat.zero_mul, signed_zero]
theorem sign_help {sV sa sb : Bool} {m ma mb k : Nat} (hm : 0 < m) (hb : 0 < mb) (h : signed sV m * signed sb mb = signed sa ma * (k : Int)) : sV = (sa != sb) := by
  have h1 : 0 < (m : Int) * (mb : Int) := Int.mul_pos (by omega) (by omega)
  have h2 : 0 ≤ (ma : Int) * (k : Int) := Int.mul_nonneg (by omega) (by omega)
  cases sV <;> cases sa <;> cases sb <;> simp only [signed, if_true, Bool.false_eq_true, if_false, Int.neg_mul, Int.mul_neg, Int.neg_neg] at h <;> first | rfl | (exfalso; omega)
theorem ddiv_z {a b : UInt64} (ha : DFin a) (hb : DFin b) (hz : zv b ≠ 0) {V : Datum} (fV : fits b64 V) (hV : ∃ s c q, V = .fin s c q) (h : zval b64 V * zv b = zv a * (one64 : Int)) : DFin (ddiv a b) ∧ zv (ddiv a b) = zval b64 V := by
  have hn : zmag b64 V * (zv b).natAbs = (zv a).natAbs * one64 := by
    have := congrArg Int.natAbs h
    rw [Int.natAbs_mul, Int.natAbs_mul, Int.natAbs_natCast] at this
    rw [zmag_nat]; exact this
  have hm : zmag b64 (val64 (ddiv a b)) = zmag b64 V := Nat.le_antisymm (ddiv_le ha hb hz fV (fin_ne hV) (Nat.le_of_eq hn.symm)) (ddiv_ge ha hb hz fV (Nat.le_of_eq hn))
  have hq : zv (ddiv a b) = zval b64 V := by
    have e1 : zv (ddiv a b) = signed (sgn (val64 (ddiv a b))) (zmag b64 (val64 (ddiv a b))) := rfl
    rw [e1, hm, ddiv_sgn ha hb hz]
    by_cases h0 : zmag b64 V = 0
    · unfold zval; rw [h0, signed_zero, signed_zero]
    · have hb0 : 0 < zmag b64 (val64 b) := by rw [zmag_nat]; have : zv b ≠ 0 := hz; unfold zv at this; omega
      have := sign_help (sV := sgn V) (sa := sgn (val64 a)) (sb := sgn (val64 b)) (m := zmag b64 V) (ma := zmag b64 (val64 a)) (mb := zmag b64 (val64 b)) (k := one64) (by omega) hb0 h
      rw [← this]; rfl
  exact ⟨fin_to (ddiv_out ha.notNaN hb (nz_of hb hz)) fV hV hq, hq⟩
theorem i2d_z (x : Int32) : zv (i2d x) = x.toInt * (one64 : Int) := DInt_zval (i2d_int x)
theorem l2d_z {x : Int64} (h : x.toInt.natAbs ≤ 2 ^ 53) : zv (l2d x) = x.toInt * (one64 : Int) := DInt_zval (l2d_int h)
theorem cmp_z {a b : UInt64} (ha : DFin a) (hb : DFin b) : dcmp a b = some (compare (zv a) (zv b)) := dcmp_zval ha.ne_nan hb.ne_nan
theorem cmp_eq {a b : UInt64} (ha : DFin a) (hb : DFin b) (h : zv a = zv b) : dcmp a b = some .eq := by rw [cmp_z ha hb, (compare_eq_iff _ _).mpr h]
theorem cmp_lt {a b : UInt64} (ha : DFin a) (hb : DFin b) (h : zv a < zv b) : dcmp a b = some .lt := by rw [cmp_z ha hb, (compare_lt_iff _ _).mpr h]
theorem cmp_gt {a b : UInt64} (ha : DFin a) (hb : DFin b) (h : zv b < zv a) : dcmp a b = some .gt := by rw [cmp_z ha hb, (compare_gt_iff _ _).mpr h]
theorem i32b (x : Int32) : -2147483648 ≤ x.toInt ∧ x.toInt ≤ 2147483647 := by have h1 := Int32.toInt_lt x; have h2 := Int32.le_toInt x; omega
/-- half of the unit's weight -/
def half64 : Nat := 2 ^ 1073
theorem one_half : (one64 : Int) = 2 * (half64 : Int) := by
  have h : one64 = 2 * half64 := by unfold one64 half64; rw [show 1074 = 1073 + 1 from rfl, Nat.pow_succ, Nat.mul_comm]
  rw [h, Int.natCast_mul]; rfl
end Jvm.FP.Core.OwnFl
namespace Jvm.FP.Core.OwnFl
open Jvm.FP.Core
theorem near_scale {P Q R P' Q' R' S S' : Nat} (hS' : 0 < S') (hp : P * S = P' * S') (hq : Q * S = Q' * S') (hr : R * S = R' * S') (h : ((P : Int) - Q).natAbs ≤ ((P : Int) - R).natAbs) : ((P' : Int) - Q').natAbs ≤ ((P' : Int) - R').natAbs := by
  have m : ∀ x y k : Nat, ((x : Int) - y).natAbs * k = (((x * k : Nat) : Int) - ((y * k : Nat) : Int)).natAbs := fun x y k => by
    rw [Int.natCast_mul, Int.natCast_mul, ← Int.sub_mul, Int.natAbs_mul, Int.natAbs_natCast]
  refine Nat.le_of_mul_le_mul_right (c := S') ?_ hS'
  rw [m, m, ← hp, ← hq, ← hr, ← m, ← m]
  exact Nat.mul_le_mul_right _ h
/-- no double is nearer to the quotient than the rounded one -/
theorem quot_near {a b : UInt64} (ha : DFin a) (hb : DFin b) (hz : zv b ≠ 0) (hf : DFin (ddiv a b)) {V : Datum} (fV : fits b64 V) (hV : ∃ s c q, V = .fin s c q) :
    ((((zv a).natAbs * one64 : Nat) : Int) - ((zmag b64 (val64 (ddiv a b)) * (zv b).natAbs : Nat) : Int)).natAbs ≤ ((((zv a).natAbs * one64 : Nat) : Int) - ((zmag b64 V * (zv b).natAbs : Nat) : Int)).natAbs := by
  obtain ⟨s, c, q, h1⟩ := ha
  obtain ⟨t, d, r, h2⟩ := hb
  have f1 := val64_fits a
  have f2 := val64_fits b
  have f3 := val64_fits (ddiv a b)
  rw [h1] at f1
  rw [h2] at f2
  have z1 : (zv a).natAbs = c * 2 ^ (q - b64.qmin).toNat := by unfold zv zval; rw [natAbs_signed, h1]; rfl
  have z2 : (zv b).natAbs = d * 2 ^ (r - b64.qmin).toNat := by unfold zv zval; rw [natAbs_signed, h2]; rfl
  have hd : d ≠ 0 := by
    intro hd
    rw [hd, Nat.zero_mul] at z2
    omega
  have hR : val64 (ddiv a b) = roundRatio b64 (s != t) c d (q - r) := by
    rw [val64_ddiv, h1, h2]
    show (if d = 0 then _ else roundRatio b64 (s != t) c d (q - r)) = _
    rw [if_neg hd]
  obtain ⟨s3, c3, q3, h3⟩ := hf
  obtain ⟨s4, c4, q4, rfl⟩ := hV
  rw [h3] at f3 hR
  have k1 := Int.min_le_left b64.qmin (q - r)
  have k2 := Int.min_le_right b64.qmin (q - r)
  have hn := roundRatio_nearest good_b64 (by omega) hR.symm fV.1 fV.2.1 k1 k2
  generalize min b64.qmin (q - r) = e0 at k1 k2 hn
  unfold distance at hn
  rw [units_fin f3 k1, units_fin fV k1, ← Int.natCast_mul, ← Int.natCast_mul] at hn
  have g1 := f1.2.1
  have g2 := f2.2.1
  have hs : (q - r - e0).toNat + (r - b64.qmin).toNat = (b64.qmin - e0).toNat + ((q - b64.qmin).toNat + (-b64.qmin).toNat) := by
    have := qmin_b64
    omega
  rw [h3]
  refine near_scale (S := 2 ^ (r - b64.qmin).toNat) (S' := 2 ^ (b64.qmin - e0).toNat) (Nat.two_pow_pos _) ?_ ?_ ?_ hn
  · rw [z1, ← pow_qmin64]
    unfold inUnits
    rw [Nat.mul_assoc, Nat.mul_assoc, Nat.mul_assoc, ← Nat.pow_add, ← Nat.pow_add, ← Nat.pow_add, hs]
    congr 2; omega
  · rw [z2]; ac_rfl
  · rw [z2]; ac_rfl
theorem nat_round {A N z one half : Nat} (hN : 0 < N) (ho : one = 2 * half) (h1 : 0 < one) (hnear : 2 * (((A * one : Nat) : Int) - ((z * N : Nat) : Int)).natAbs < one) (hlow : ∀ K, 1 ≤ K → (2 * K - 1) * N ≤ 2 * A → (2 * K - 1) * half ≤ z) : (2 * z + one) / (2 * one) = (2 * A + N) / (2 * N) := by
  have hK1 : (2 * A + N) / (2 * N) * (2 * N) ≤ 2 * A + N := Nat.div_mul_le_self _ _
  have hK2 : 2 * A + N < ((2 * A + N) / (2 * N) + 1) * (2 * N) := by
    have := Nat.lt_mul_div_succ (2 * A + N) (show 0 < 2 * N by omega)
    rw [Nat.mul_comm ((2 * A + N) / (2 * N) + 1) (2 * N)]; exact this
  generalize (2 * A + N) / (2 * N) = K at *
  have e1 : K * (2 * N) = 2 * (K * N) := Nat.mul_left_comm ..
  have e2 : (K + 1) * (2 * N) = 2 * (K * N) + 2 * N := by rw [Nat.add_mul, e1, Nat.one_mul]
  rw [e1] at hK1
  rw [e2] at hK2
  refine Nat.div_eq_of_lt_le ?_ ?_
  · by_cases h0 : K = 0
    · subst h0; omega
    · have h2 := hlow K (by omega) (by
        rw [Nat.sub_mul, Nat.one_mul, Nat.mul_assoc]; omega)
      rw [Nat.sub_mul, Nat.one_mul, Nat.mul_assoc] at h2
      have e3 : K * (2 * one) = 4 * (K * half) := by rw [ho, ← Nat.mul_assoc 2 2 half, Nat.mul_left_comm]
      rw [e3, ho]; omega
  · have h3 : 2 * (z * N) < (2 * A + 1) * one := by
      rw [Nat.add_mul, Nat.one_mul, Nat.mul_assoc]; omega
    have h4 : (2 * A + 1) * one ≤ ((2 * K + 1) * N) * one := Nat.mul_le_mul_right _ (by rw [Nat.add_mul, Nat.one_mul, Nat.mul_assoc]; omega)
    have h5 : (2 * z) * N < ((2 * K + 1) * one) * N := by
      rw [Nat.mul_assoc 2 z N, Nat.mul_right_comm (2 * K + 1) one N]; omega
    have h6 := Nat.lt_of_mul_lt_mul_right h5
    rw [Nat.add_mul, Nat.one_mul, Nat.mul_assoc] at h6
    have e4 : (K + 1) * (2 * one) = 2 * (K * one) + 2 * one := by rw [Nat.add_mul, Nat.one_mul, Nat.mul_left_comm]
    rw [e4]; omega
theorem one_eq : one64 = 2 * half64 := by unfold one64 half64; rw [show 1074 = 1073 + 1 from rfl, Nat.pow_succ, Nat.mul_comm]
theorem sgn_l2d {x : Int64} (h : 0 ≤ x.toInt) : sgn (val64 (l2d x)) = false := by
  obtain ⟨c, q, h1⟩ := l2d_shape x
  rw [h1]
  show decide (x.toInt < 0) = false
  simp; omega
/-- the rounded quotient of two whole numbers, rounded to a whole number, is the quotient rounded -/
theorem div_round {x y : Int64} (hx0 : 0 ≤ x.toInt) (hx : 2 * x.toInt < 9007199254740992) (hy0 : 0 < y.toInt) (hy : y.toInt < 9007199254740992) :
    ∃ z : Nat, DFin (ddiv (l2d x) (l2d y)) ∧ sgn (val64 (ddiv (l2d x) (l2d y))) = false ∧ zv (ddiv (l2d x) (l2d y)) = (z : Int) ∧ z ≤ x.toInt.toNat * one64 ∧ (2 * z + one64) / (2 * one64) = (2 * x.toInt.toNat + y.toInt.toNat) / (2 * y.toInt.toNat) := by
  have za0 := l2d_z (x := x) (by omega)
  have zb0 := l2d_z (x := y) (by omega)
  have hA : x.toInt = (x.toInt.toNat : Int) := by omega
  have hB : y.toInt = (y.toInt.toNat : Int) := by omega
  rw [hA] at za0
  rw [hB] at zb0
  have hA53 : 2 * x.toInt.toNat < 9007199254740992 := by omega
  have hN53 : y.toInt.toNat < 9007199254740992 := by omega
  have hN : 0 < y.toInt.toNat := by omega
  have ss : sgn (val64 (ddiv (l2d x) (l2d y))) = false := by
    by_cases hz : zv (l2d y) = 0
    · exfalso; rw [zb0] at hz
      have := one64_pos
      rcases Int.mul_eq_zero.mp hz with h | h <;> omega
    · rw [ddiv_sgn (l2d_fin x) (l2d_fin y) hz, sgn_l2d hx0, sgn_l2d (by omega)]; rfl
  generalize x.toInt.toNat = A at *
  generalize y.toInt.toNat = N at *
  have o := one64_pos
  have na : (zv (l2d x)).natAbs = A * one64 := by rw [za0, Int.natAbs_mul, Int.natAbs_natCast, Int.natAbs_natCast]
  have nb : (zv (l2d y)).natAbs = N * one64 := by rw [zb0, Int.natAbs_mul, Int.natAbs_natCast, Int.natAbs_natCast]
  have hz : zv (l2d y) ≠ 0 := by
    intro h
    rw [h] at nb
    have := Nat.mul_pos hN o
    omega
  have eo : ((2 ^ 1074 : Nat) : Int) = (one64 : Int) := rfl
  have eh : ((2 ^ 1073 : Nat) : Int) = (half64 : Int) := rfl
  have hfin : DFin (ddiv (l2d x) (l2d y)) ∧ zmag b64 (val64 (ddiv (l2d x) (l2d y))) ≤ A * one64 := by
    obtain ⟨V, fV, hV, eV⟩ := rep (A : Int) 1074 (by omega) (by decide)
    rw [eo] at eV
    have mV : zmag b64 V = A * one64 := by rw [zmag_nat, eV, Int.natAbs_mul, Int.natAbs_natCast, Int.natAbs_natCast]
    have hle := ddiv_le (l2d_fin x) (l2d_fin y) hz fV (fin_ne hV) (by
      rw [na, nb, mV]
      calc A * one64 * one64 ≤ A * one64 * (N * one64) := Nat.mul_le_mul_left _ (Nat.le_mul_of_pos_left _ hN)
        _ = _ := rfl)
    refine ⟨fin_of ((notNaN_iff _).mp (ddiv_out (l2d_fin x).notNaN (l2d_fin y) (nz_of (l2d_fin y) hz))) (Nat.lt_of_le_of_lt hle ?_), by rw [← mV]; exact hle⟩
    obtain ⟨s, c, q, rfl⟩ := hV
    exact zmag_lt_top good_b64 fV
  have hzv : zv (ddiv (l2d x) (l2d y)) = ((zmag b64 (val64 (ddiv (l2d x) (l2d y))) : Nat) : Int) := by
    unfold zv zval; rw [ss]; rfl
  refine ⟨zmag b64 (val64 (ddiv (l2d x) (l2d y))), hfin.1, ss, hzv, hfin.2, ?_⟩
  refine nat_round hN one_eq o ?_ ?_
  · have i1 : 2 ^ N.log2 ≤ N := Nat.log2_self_le (by omega)
    have i2 : N < 2 ^ (N.log2 + 1) := Nat.lt_log2_self
    have i3 : N.log2 < 53 := (Nat.pow_lt_pow_iff_right (by decide : 1 < 2)).mp (Nat.lt_of_le_of_lt i1 (by show N < 9007199254740992; exact hN53))
    have i4 : 2 ^ (N.log2 + 1) ≤ 2 * N := by rw [Nat.pow_succ]; omega
    have i5 : one64 = 2 ^ (N.log2 + 1) * 2 ^ (1074 - (N.log2 + 1)) := by unfold one64; rw [← Nat.pow_add]; congr 1; omega
    obtain ⟨w1, w2, -⟩ := nearest_spec (A * 2 ^ (N.log2 + 1)) N hN
    have w3 : nearest (A * 2 ^ (N.log2 + 1)) N ≤ 2 * A := nearest_le hN (by
      calc A * 2 ^ (N.log2 + 1) ≤ A * (2 * N) := Nat.mul_le_mul_left _ i4
        _ = 2 * A * N := by rw [Nat.mul_left_comm, Nat.mul_assoc])
    generalize nearest (A * 2 ^ (N.log2 + 1)) N = w at *
    obtain ⟨V, fV, hV, eV⟩ := rep (w : Int) (1074 - (N.log2 + 1)) (by omega) (by omega)
    generalize hP : 2 ^ (1074 - (N.log2 + 1)) = P at *
    generalize 2 ^ (N.log2 + 1) = Tw at *
    have mV : zmag b64 V = w * P := by rw [zmag_nat, eV, Int.natAbs_mul, Int.natAbs_natCast, Int.natAbs_natCast]
    have hn := quot_near (l2d_fin x) (l2d_fin y) hz hfin.1 fV hV
    rw [na, nb, mV] at hn
    generalize zmag b64 (val64 (ddiv (l2d x) (l2d y))) = z at *
    have hn2 := near_scale (S := 1) (S' := one64) (P' := A * one64) (Q' := z * N) (R' := w * P * N) o (Nat.mul_one _) (by rw [Nat.mul_one, Nat.mul_assoc]) (by rw [Nat.mul_one, ← Nat.mul_assoc]) hn
    have e1 : ((A * one64 : Nat) : Int) - ((w * P * N : Nat) : Int) = (((A * Tw : Nat) : Int) - ((w * N : Nat) : Int)) * (P : Int) := by
      rw [i5, Int.sub_mul, ← Int.natCast_mul, ← Int.natCast_mul, Nat.mul_assoc A Tw P, Nat.mul_right_comm w P N]
    rw [e1, Int.natAbs_mul, Int.natAbs_natCast] at hn2
    have h7 : 2 * (((A * Tw : Nat) : Int) - ((w * N : Nat) : Int)).natAbs ≤ N := by
      rw [Nat.add_mul, Nat.one_mul, Nat.mul_assoc] at w1
      rw [Nat.mul_assoc] at w2
      generalize A * Tw = u at *
      generalize w * N = v at *
      omega
    have h8 := Nat.mul_le_mul_right P h7
    have hPp : 0 < P := by rw [← hP]; exact Nat.two_pow_pos _
    have h9 : N * P < one64 := by rw [i5]; exact Nat.mul_lt_mul_of_pos_right i2 hPp
    rw [Nat.mul_assoc] at h8
    omega
  · intro K hK hle
    obtain ⟨V, fV, hV, eV⟩ := rep ((2 * K - 1 : Nat) : Int) 1073 (by
      have : 2 * K - 1 ≤ (2 * K - 1) * N := Nat.le_mul_of_pos_right _ hN
      rw [Int.natAbs_natCast]; show 2 * K - 1 < 9007199254740992; omega) (by decide)
    rw [eh] at eV
    have mV : zmag b64 V = (2 * K - 1) * half64 := by rw [zmag_nat, eV, Int.natAbs_mul, Int.natAbs_natCast, Int.natAbs_natCast]
    rw [← mV]
    refine ddiv_ge (l2d_fin x) (l2d_fin y) hz fV ?_
    rw [na, nb, mV]
    have oe := one_eq
    have hle2 := Nat.mul_le_mul_right (half64 * one64) hle
    generalize half64 = H at oe hle2 ⊢
    generalize one64 = O at oe hle2 ⊢
    calc (2 * K - 1) * H * (N * O) = (2 * K - 1) * N * (H * O) := by ac_rfl
      _ ≤ 2 * A * (H * O) := hle2
      _ = A * (2 * H) * O := by ac_rfl
      _ = A * O * O := by rw [← oe]
/-- what Math.round's rows reckon -/
def rnd (x : UInt64) : Int64 :=
  if ((1074 : Int64) - ((x.toInt64 &&& (9218868437227405312 : Int64)) >>> ((52 : Int32) &&& 0x3f).toInt64)) &&& (-64 : Int64) = 0 then
    (((((x.toInt64 &&& (4503599627370495 : Int64)) ||| (4503599627370496 : Int64)) >>> (((1074 : Int64) - ((x.toInt64 &&& (9218868437227405312 : Int64)) >>> ((52 : Int32) &&& 0x3f).toInt64)).toInt32 &&& 0x3f).toInt64) + (1 : Int64)) >>> ((1 : Int32) &&& 0x3f).toInt64)
  else d2l x
end Jvm.FP.Core.OwnFl
namespace Jvm.FP.Core.OwnFl
open Jvm.FP.Core
theorem fin_btw {x : UInt64} {V W : Datum} (hn : dIsNaN x = false) (fV : fits b64 V) (hV : ∃ s c q, V = .fin s c q) (fW : fits b64 W) (hW : ∃ s c q, W = .fin s c q) (h1 : zval b64 V ≤ zv x) (h2 : zv x ≤ zval b64 W) : DFin x := by
  refine fin_of ((notNaN_iff x).mp hn) ?_
  rw [zmag_nat]
  have v : zmag b64 V < b64.tails * 2 ^ (b64.exps - 2) := by obtain ⟨s, c, q, rfl⟩ := hV; exact zmag_lt_top good_b64 fV
  have w : zmag b64 W < b64.tails * 2 ^ (b64.exps - 2) := by obtain ⟨s, c, q, rfl⟩ := hW; exact zmag_lt_top good_b64 fW
  rw [zmag_nat] at v w
  unfold zv at h1 h2
  omega
theorem dadd_btw {a b : UInt64} (ha : DFin a) (hb : DFin b) {lo hi : Int} {k : Nat} (l1 : lo.natAbs < 2 ^ 53) (l2 : hi.natAbs < 2 ^ 53) (hk : k ≤ 2045) (h1 : lo * ((2 ^ k : Nat) : Int) ≤ zv a + zv b) (h2 : zv a + zv b ≤ hi * ((2 ^ k : Nat) : Int)) :
    DFin (dadd a b) ∧ lo * ((2 ^ k : Nat) : Int) ≤ zv (dadd a b) ∧ zv (dadd a b) ≤ hi * ((2 ^ k : Nat) : Int) := by
  obtain ⟨V, fV, hV, eV⟩ := rep lo k l1 hk
  obtain ⟨W, fW, hW, eW⟩ := rep hi k l2 hk
  rw [← eV] at h1 ⊢
  rw [← eW] at h2 ⊢
  have q1 := sum_ge good_b64 ha hb (val64_fits a) (val64_fits b) fV (fin_ne hV) h1
  have q2 := sum_le good_b64 ha hb (val64_fits a) (val64_fits b) fW (fin_ne hW) h2
  rw [← val64_dadd] at q1 q2
  exact ⟨fin_btw (dadd_out' ha hb.notNaN) fV hV fW hW q1 q2, q1, q2⟩
theorem dsub_btw {a b : UInt64} (ha : DFin a) (hb : DFin b) {lo hi : Int} {k : Nat} (l1 : lo.natAbs < 2 ^ 53) (l2 : hi.natAbs < 2 ^ 53) (hk : k ≤ 2045) (h1 : lo * ((2 ^ k : Nat) : Int) ≤ zv a - zv b) (h2 : zv a - zv b ≤ hi * ((2 ^ k : Nat) : Int)) :
    DFin (dsub a b) ∧ lo * ((2 ^ k : Nat) : Int) ≤ zv (dsub a b) ∧ zv (dsub a b) ≤ hi * ((2 ^ k : Nat) : Int) := by
  obtain ⟨V, fV, hV, eV⟩ := rep lo k l1 hk
  obtain ⟨W, fW, hW, eW⟩ := rep hi k l2 hk
  rw [← eV] at h1 ⊢
  rw [← eW] at h2 ⊢
  have hn : ∃ s c q, negate (val64 b) = .fin s c q := by obtain ⟨s, c, q, h⟩ := hb; exact ⟨_, _, _, by rw [h]; rfl⟩
  have e : zval b64 (val64 a) + zval b64 (negate (val64 b)) = zv a - zv b := by rw [zval_negate]; unfold zv; omega
  have q1 := sum_ge good_b64 ha hn (val64_fits a) (negate_fits (val64_fits b)) fV (fin_ne hV) (by rw [e]; exact h1)
  have q2 := sum_le good_b64 ha hn (val64_fits a) (negate_fits (val64_fits b)) fW (fin_ne hW) (by rw [e]; exact h2)
  rw [← val64_dsub] at q1 q2
  exact ⟨fin_btw (dsub_out' ha hb.notNaN) fV hV fW hW q1 q2, q1, q2⟩
theorem dmul_btw {a b : UInt64} (ha : DFin a) (hb : DFin b) {lo hi : Int} {k : Nat} (l1 : lo.natAbs < 2 ^ 53) (l2 : hi.natAbs < 2 ^ 53) (hk : k ≤ 2045) (h1 : lo * ((2 ^ k : Nat) : Int) * (one64 : Int) ≤ zv a * zv b) (h2 : zv a * zv b ≤ hi * ((2 ^ k : Nat) : Int) * (one64 : Int)) :
    DFin (dmul a b) ∧ lo * ((2 ^ k : Nat) : Int) ≤ zv (dmul a b) ∧ zv (dmul a b) ≤ hi * ((2 ^ k : Nat) : Int) := by
  obtain ⟨V, fV, hV, eV⟩ := rep lo k l1 hk
  obtain ⟨W, fW, hW, eW⟩ := rep hi k l2 hk
  rw [← eV] at h1 ⊢
  rw [← eW] at h2 ⊢
  have q1 := dmul_ge ha hb fV (fin_ne hV) h1
  have q2 := dmul_le ha hb fW (fin_ne hW) h2
  exact ⟨fin_btw (dmul_out ha hb) fV hV fW hW q1 q2, q1, q2⟩
theorem ddiv_btw {a b : UInt64} (ha : DFin a) (hb : DFin b) (sa : sgn (val64 a) = false) (sb : sgn (val64 b) = false) (hz : zv b ≠ 0) {lo hi k : Nat} (l1 : lo < 2 ^ 53) (l2 : hi < 2 ^ 53) (hk : k ≤ 2045) (h1 : lo * 2 ^ k * (zv b).natAbs ≤ (zv a).natAbs * one64) (h2 : (zv a).natAbs * one64 ≤ hi * 2 ^ k * (zv b).natAbs) :
    DFin (ddiv a b) ∧ ((lo * 2 ^ k : Nat) : Int) ≤ zv (ddiv a b) ∧ zv (ddiv a b) ≤ ((hi * 2 ^ k : Nat) : Int) := by
  obtain ⟨V, fV, hV, eV⟩ := rep (lo : Int) k (by omega) hk
  obtain ⟨W, fW, hW, eW⟩ := rep (hi : Int) k (by omega) hk
  have mV : zmag b64 V = lo * 2 ^ k := by rw [zmag_nat, eV, ← Int.natCast_mul, Int.natAbs_natCast]
  have mW : zmag b64 W = hi * 2 ^ k := by rw [zmag_nat, eW, ← Int.natCast_mul, Int.natAbs_natCast]
  have q1 := ddiv_ge ha hb hz fV (by rw [mV]; exact h1)
  have q2 := ddiv_le ha hb hz fW (fin_ne hW) (by rw [mW]; exact h2)
  rw [mV] at q1
  rw [mW] at q2
  have hs := ddiv_sgn ha hb hz
  rw [sa, sb] at hs
  have e : zv (ddiv a b) = ((zmag b64 (val64 (ddiv a b)) : Nat) : Int) := by unfold zv zval; rw [hs]; rfl
  have q1' : ((lo * 2 ^ k : Nat) : Int) ≤ zv (ddiv a b) := by rw [e]; omega
  have q2' : zv (ddiv a b) ≤ ((hi * 2 ^ k : Nat) : Int) := by rw [e]; omega
  exact ⟨fin_btw (ddiv_out ha.notNaN hb (nz_of hb hz)) fV hV fW hW (by rw [eV, ← Int.natCast_mul]; exact q1') (by rw [eW, ← Int.natCast_mul]; exact q2'), q1', q2'⟩
def gr : Nat := 2 ^ 1038
theorem gr_pos : 0 < gr := by unfold gr; exact Nat.two_pow_pos _
theorem one_gr : one64 = 68719476736 * gr := by unfold one64 gr; rw [show 1074 = 36 + 1038 from rfl, Nat.pow_add]
theorem grid1 {L g d o n : Nat} (og : o = 68719476736 * g) (h : L * d ≤ n * 68719476736) : L * g * (d * o) ≤ n * o * o := by
  have h2 := Nat.mul_le_mul_right (g * o) h
  calc L * g * (d * o) = L * d * (g * o) := by ac_rfl
    _ ≤ n * 68719476736 * (g * o) := h2
    _ = n * (68719476736 * g) * o := by ac_rfl
    _ = n * o * o := by rw [← og]
theorem grid2 {L g d o n : Nat} (og : o = 68719476736 * g) (h : n * 68719476736 ≤ L * d) : n * o * o ≤ L * g * (d * o) := by
  have h2 := Nat.mul_le_mul_right (g * o) h
  calc n * o * o = n * (68719476736 * g) * o := by rw [← og]
    _ = n * 68719476736 * (g * o) := by ac_rfl
    _ ≤ L * d * (g * o) := h2
    _ = L * g * (d * o) := by ac_rfl
theorem grid3 (x y g : Int) : x * g * (y * 68719476736 * g) = (x * y) * (68719476736 * g * g) := by ac_rfl
theorem grid4 (x g : Int) : x * (17179869184 * g) * (68719476736 * g) = (x * 17179869184) * (68719476736 * g * g) := by ac_rfl
theorem pb1 {a L : Nat} (ha : a ≤ 65535) (hL : L ≤ 32767 * 68719476736) : ((a : Int) * 68719476736 + (L : Int)).natAbs < 2 ^ 53 := by omega
theorem pb2 {a L : Nat} (ha : a ≤ 65535) (hL : L ≤ 32767 * 68719476736) : ((a : Int) * 68719476736 + ((L + 1 : Nat) : Int)).natAbs < 2 ^ 53 := by omega
theorem pb3 {L Q : Nat} (hL : L ≤ 32767 * 68719476736) (hQ : Q ≤ 32767) : ((L : Int) - (Q : Int) * 68719476736).natAbs < 2 ^ 53 := by omega
theorem pb4 {L Q : Nat} (hL : L ≤ 32767 * 68719476736) (hQ : Q ≤ 32767) : (((L + 1 : Nat) : Int) - (Q : Int) * 68719476736).natAbs < 2 ^ 53 := by omega
theorem pw1 {A L g y : Int} (h : L * g ≤ y) : (A + L) * g ≤ A * g + y := by rw [Int.add_mul]; omega
theorem pw2 {A L g y : Int} (h : y ≤ L * g) : A * g + y ≤ (A + L) * g := by rw [Int.add_mul]; omega
theorem ps1 {A L Q g w : Int} (h : (A + L) * g ≤ w) : (L - Q) * g ≤ w - (A + Q) * g := by rw [Int.sub_mul]; rw [Int.add_mul] at h ⊢; omega
theorem ps2 {A L Q g w : Int} (h : w ≤ (A + L) * g) : w - (A + Q) * g ≤ (L - Q) * g := by rw [Int.sub_mul]; rw [Int.add_mul] at h ⊢; omega
/-- in whole numbers: d * (L - Q G) against r G -/
theorem pint {n d L Q r : Nat} (hdm : d * Q + r = n) (hL1 : L * d ≤ n * 68719476736) (hL2 : n * 68719476736 < (L + 1) * d) :
    (r : Int) * 68719476736 - (d : Int) < ((L : Int) - (Q : Int) * 68719476736) * (d : Int) ∧ (((L + 1 : Nat) : Int) - (Q : Int) * 68719476736) * (d : Int) ≤ (r : Int) * 68719476736 + (d : Int) := by
  have c1 : (n : Int) * 68719476736 = ((d : Int) * (Q : Int)) * 68719476736 + (r : Int) * 68719476736 := by rw [← hdm, Int.natCast_add, Int.natCast_mul, Int.add_mul]
  have c2 : (L : Int) * (d : Int) ≤ (n : Int) * 68719476736 := by
    have := Int.ofNat_le.mpr hL1
    rw [Int.natCast_mul, Int.natCast_mul] at this; exact this
  have c3 : (n : Int) * 68719476736 < (L : Int) * (d : Int) + (d : Int) := by
    have := Int.ofNat_lt.mpr hL2
    rw [Int.natCast_mul, Int.natCast_mul, Int.natCast_add, Int.add_mul] at this
    have e : ((1 : Nat) : Int) * (d : Int) = (d : Int) := Int.one_mul _
    rw [e] at this; exact this
  have e1 : ((L : Int) - (Q : Int) * 68719476736) * (d : Int) = (L : Int) * (d : Int) - ((d : Int) * (Q : Int)) * 68719476736 := by rw [Int.sub_mul]; congr 1; rw [Int.mul_right_comm, Int.mul_comm (Q : Int)]
  have e2 : (((L + 1 : Nat) : Int) - (Q : Int) * 68719476736) * (d : Int) = (L : Int) * (d : Int) + (d : Int) - ((d : Int) * (Q : Int)) * 68719476736 := by
    rw [Int.sub_mul, Int.natCast_add, Int.add_mul]
    congr 1
    · congr 1; exact Int.one_mul _
    · rw [Int.mul_right_comm, Int.mul_comm (Q : Int)]
  rw [e1, e2]
  generalize (L : Int) * (d : Int) = u at *
  generalize (d : Int) * (Q : Int) = v at *
  omega
theorem pm1 {r d X : Int} (h : r * 68719476736 - d < X) (hd : d ≤ 32769) : (4 * r - 1) * 17179869184 ≤ X := by omega
theorem pm2 {r d X : Int} (h : X ≤ r * 68719476736 + d) (hd : d ≤ 32769) : X ≤ (4 * r + 1) * 17179869184 := by omega
theorem ppos {r d X : Int} (h : r * 68719476736 - d < X * d) (hr : 1 ≤ r) (hd : 0 < d) (hd2 : d ≤ 32769) : 0 < X := by
  refine Int.lt_of_mul_lt_mul_right (a := d) ?_ (Int.le_of_lt hd)
  rw [Int.zero_mul]; omega
theorem plt {r d X : Int} (h : X * d ≤ r * 68719476736 + d) (hr : r ≤ d - 1) (hd : 0 < d) (hd2 : d ≤ 32769) : X < 68719476736 := by
  refine Int.lt_of_mul_lt_mul_right (a := d) ?_ (Int.le_of_lt hd)
  omega
theorem pmul1 {g x y c b : Int} (hg : 0 < g) (hy : 0 ≤ y) (h1 : x * g ≤ b) (h2 : c * 17179869184 ≤ x * y) : c * (17179869184 * g) * (68719476736 * g) ≤ b * (y * 68719476736 * g) := by
  have p : 0 ≤ y * 68719476736 * g := Int.mul_nonneg (Int.mul_nonneg hy (by decide)) (Int.le_of_lt hg)
  refine Int.le_trans ?_ (Int.mul_le_mul_of_nonneg_right h1 p)
  rw [grid3, grid4]
  exact Int.mul_le_mul_of_nonneg_right h2 (Int.mul_nonneg (Int.mul_nonneg (by decide) (Int.le_of_lt hg)) (Int.le_of_lt hg))
theorem pmul2 {g x y c b : Int} (hg : 0 < g) (hy : 0 ≤ y) (h1 : b ≤ x * g) (h2 : x * y ≤ c * 17179869184) : b * (y * 68719476736 * g) ≤ c * (17179869184 * g) * (68719476736 * g) := by
  have p : 0 ≤ y * 68719476736 * g := Int.mul_nonneg (Int.mul_nonneg hy (by decide)) (Int.le_of_lt hg)
  refine Int.le_trans (Int.mul_le_mul_of_nonneg_right h1 p) ?_
  rw [grid3, grid4]
  exact Int.mul_le_mul_of_nonneg_right h2 (Int.mul_nonneg (Int.mul_nonneg (by decide) (Int.le_of_lt hg)) (Int.le_of_lt hg))
theorem gr_quarter : 2 ^ 1072 = 17179869184 * gr := by
  unfold gr
  have h : (2 : Nat) ^ 34 = 17179869184 := by decide
  rw [show 1072 = 34 + 1038 from rfl, Nat.pow_add, h]
theorem pB {a Q G g : Int} : (a + Q) * G * g = (a * G + Q * G) * g := by rw [Int.add_mul]
theorem hz_of {D : UInt64} {d : Nat} (nD : (zv D).natAbs = d * one64) (hd : 2 ≤ d) : zv D ≠ 0 := by
  intro h
  rw [h] at nD
  have := Nat.mul_pos (show 0 < d from Nat.lt_of_lt_of_le (by decide) hd) one64_pos
  rw [← nD] at this
  exact absurd this (by decide)
theorem abs_mul (n : Nat) : ((n : Int) * (one64 : Int)).natAbs = n * one64 := by rw [Int.natAbs_mul, Int.natAbs_natCast, Int.natAbs_natCast]
theorem cast4 {r : Nat} (h : r ≠ 0) : ((4 * r - 1 : Nat) : Int) = 4 * (r : Int) - 1 := by omega
theorem cast5 {r : Nat} : ((4 * r + 1 : Nat) : Int) = 4 * (r : Int) + 1 := by omega
theorem sm4 {r d : Nat} (h : r < d) (hd : d ≤ 32769) : (4 * (r : Int) - 1).natAbs < 2 ^ 53 ∧ (4 * (r : Int) + 1).natAbs < 2 ^ 53 := by omega
/-- the expected waste, its whole part taken off: where it lies -/
theorem waste {A N D B : UInt64} (fA : DFin A) (fN : DFin N) (fD : DFin D) (fB : DFin B) {a n d : Nat} (zA : zv A = (a : Int) * (one64 : Int)) (zN : zv N = (n : Int) * (one64 : Int)) (zD : zv D = (d : Int) * (one64 : Int)) (zB : zv B = ((a + n / d : Nat) : Int) * (one64 : Int))
    (sN : sgn (val64 N) = false) (sD : sgn (val64 D) = false) (ha : a ≤ 65535) (hn : n ≤ 32767 * d) (hd : 2 ≤ d) (hd2 : d ≤ 32769) :
    DFin (ddiv N D) ∧ DFin (dadd A (ddiv N D)) ∧ DFin (dsub (dadd A (ddiv N D)) B) ∧ DFin (dmul (dsub (dadd A (ddiv N D)) B) D) ∧ (n % d = 0 → zv (dadd A (ddiv N D)) = zv B) ∧
    (n % d ≠ 0 → 0 < zv (dsub (dadd A (ddiv N D)) B) ∧ zv (dsub (dadd A (ddiv N D)) B) < (one64 : Int) ∧ ((4 * (n % d) - 1 : Nat) : Int) * ((17179869184 * gr : Nat) : Int) ≤ zv (dmul (dsub (dadd A (ddiv N D)) B) D) ∧ zv (dmul (dsub (dadd A (ddiv N D)) B) D) ≤ ((4 * (n % d) + 1 : Nat) : Int) * ((17179869184 * gr : Nat) : Int)) := by
  have hd0 : 0 < d := Nat.lt_of_lt_of_le (by decide) hd
  have hdm := Nat.div_add_mod n d
  have hml := Nat.mod_lt n hd0
  have nN : (zv N).natAbs = n * one64 := by rw [zN]; exact abs_mul n
  have nD : (zv D).natAbs = d * one64 := by rw [zD]; exact abs_mul d
  have hz := hz_of nD hd
  have hL1 : n * 68719476736 / d * d ≤ n * 68719476736 := Nat.div_mul_le_self _ _
  have hL2 : n * 68719476736 < (n * 68719476736 / d + 1) * d := by
    have := Nat.lt_mul_div_succ (n * 68719476736) hd0
    rw [Nat.mul_comm (n * 68719476736 / d + 1) d]; exact this
  have hL3 : n * 68719476736 / d ≤ 32767 * 68719476736 := Nat.div_le_of_le_mul (by
    calc n * 68719476736 ≤ 32767 * d * 68719476736 := Nat.mul_le_mul_right _ hn
      _ = d * (32767 * 68719476736) := by rw [Nat.mul_comm 32767 d, Nat.mul_assoc])
  generalize n * 68719476736 / d = L at *
  have kk : 2 ^ 1038 = gr := rfl
  have lb1 : L < 2 ^ 53 := Nat.lt_of_le_of_lt hL3 (by decide)
  have lb2 : L + 1 < 2 ^ 53 := Nat.lt_of_le_of_lt (Nat.succ_le_succ hL3) (by decide)
  have y := ddiv_btw fN fD sN sD hz (lo := L) (hi := L + 1) (k := 1038) lb1 lb2 (by decide) (by
    rw [nN, nD, kk]; exact grid1 one_gr hL1) (by
    rw [nN, nD, kk]; exact grid2 one_gr (Nat.le_of_lt hL2))
  rw [kk, Int.natCast_mul, Int.natCast_mul] at y
  obtain ⟨fy, y1, y2⟩ := y
  have ogI : (one64 : Int) = 68719476736 * (gr : Int) := by rw [one_gr, Int.natCast_mul]; rfl
  have gI : (0 : Int) < (gr : Int) := Int.ofNat_lt.mpr gr_pos
  rw [ogI, ← Int.mul_assoc] at zA zB zD
  have w := dadd_btw fA fy (lo := (a : Int) * 68719476736 + (L : Int)) (hi := (a : Int) * 68719476736 + ((L + 1 : Nat) : Int)) (k := 1038) (pb1 ha hL3) (pb2 ha hL3) (by decide) (by rw [kk, zA]; exact pw1 y1) (by rw [kk, zA]; exact pw2 y2)
  rw [kk] at w
  obtain ⟨fw, w1, w2⟩ := w
  have hQb : n / d ≤ 32767 := Nat.div_le_of_le_mul (by rw [Nat.mul_comm]; exact hn)
  rw [Int.natCast_add, pB] at zB
  have hQnd : n % d = 0 → n = d * (n / d) := fun h => by rw [h, Nat.add_zero] at hdm; exact hdm.symm
  generalize n / d = Qn at *
  generalize n % d = r at *
  have s := dsub_btw fw fB (lo := (L : Int) - (Qn : Int) * 68719476736) (hi := ((L + 1 : Nat) : Int) - (Qn : Int) * 68719476736) (k := 1038) (pb3 hL3 hQb) (pb4 hL3 hQb) (by decide) (by rw [kk, zB]; exact ps1 w1) (by rw [kk, zB]; exact ps2 w2)
  rw [kk] at s
  obtain ⟨fs, s1, s2⟩ := s
  obtain ⟨b1, b2⟩ := pint hdm hL1 hL2
  have dI : (0 : Int) < (d : Int) := Int.ofNat_lt.mpr hd0
  have dI2 : (d : Int) ≤ 32769 := Int.ofNat_le.mpr hd2
  have rI : (r : Int) ≤ (d : Int) - 1 := by have := Int.ofNat_lt.mpr hml; exact Int.le_sub_one_of_lt this
  have q34 : ((2 ^ 1072 : Nat) : Int) = 17179869184 * (gr : Int) := by rw [gr_quarter, Int.natCast_mul]; rfl
  have m := dmul_btw fs fD (lo := 4 * (r : Int) - 1) (hi := 4 * (r : Int) + 1) (k := 1072) (sm4 hml hd2).1 (sm4 hml hd2).2 (by decide) (by
    rw [q34, zD, ogI]; exact pmul1 gI (Int.le_of_lt dI) s1 (pm1 b1 dI2)) (by
    rw [q34, zD, ogI]; exact pmul2 gI (Int.le_of_lt dI) s2 (pm2 b2 dI2))
  rw [q34] at m
  obtain ⟨fm, m1, m2⟩ := m
  have e4 : ((17179869184 * gr : Nat) : Int) = 17179869184 * (gr : Int) := by rw [Int.natCast_mul]; rfl
  refine ⟨fy, fw, fs, fm, fun hr0 => ?_, fun hr0 => ⟨?_, ?_, ?_, ?_⟩⟩
  · have hnd := hQnd hr0
    obtain ⟨V, fV, hV, eV⟩ := rep (Qn : Int) 1074 (Nat.lt_of_le_of_lt (show (Qn : Int).natAbs ≤ 32767 from hQb) (by decide)) (by decide)
    have eo : ((2 ^ 1074 : Nat) : Int) = (one64 : Int) := rfl
    rw [eo] at eV
    have q := ddiv_z fN fD hz fV hV (by
      rw [eV, zD, zN, hnd, ogI, Int.natCast_mul]
      generalize (gr : Int) = g
      ac_rfl)
    obtain ⟨W, fW, hW, eW⟩ := rep ((a : Int) + (Qn : Int)) 1074 (Nat.lt_of_le_of_lt (show ((a : Int) + (Qn : Int)).natAbs ≤ 98302 by rw [← Int.natCast_add, Int.natAbs_natCast]; exact Nat.add_le_add ha hQb) (by decide)) (by decide)
    rw [eo] at eW
    have q2 := dadd_z fA fy fW hW (by rw [q.2, eV, eW, zA, ogI, Int.add_mul, Int.mul_assoc])
    rw [q2.2, q.2, eV, zA, zB, ogI, Int.add_mul, Int.mul_assoc, Int.mul_assoc]
  · have hr1 : (1 : Int) ≤ (r : Int) := Int.ofNat_le.mpr (Nat.pos_of_ne_zero hr0)
    exact Int.lt_of_lt_of_le (Int.mul_pos (ppos b1 hr1 dI dI2) gI) s1
  · rw [ogI]
    exact Int.lt_of_le_of_lt s2 (Int.mul_lt_mul_of_pos_right (plt b2 rI dI dI2) gI)
  · rw [e4, cast4 hr0]; exact m1
  · rw [e4, cast5]; exact m2
end Jvm.FP.Core.OwnFl
namespace Jvm.Pilot.@@N@@
open Jvm Jvm.ClassFile Sem Op Lib Jvm.Free Jvm.Stand Jvm.LawKit Jvm.RoadKit Bundle Jvm.Pilot.@@N@@.Jvm.D
theorem pd_0 : parseMethodDescriptor "()V" = some ⟨[], none⟩ := by decide +kernel
theorem pd_1 : parseMethodDescriptor "(IIII)V" = some ⟨[.int, .int, .int, .int], none⟩ := by decide +kernel
theorem pd_2 : parseMethodDescriptor "(I)D" = some ⟨[.int], some .double⟩ := by decide +kernel
theorem pn_0 : plainName "java/lang/Record" = true := by first | (simp [plainName, overriddenIn]; done) | decide +kernel
theorem pn_1 : plainName "com/example/culpa/culpa/FaultPlacement$Tie" = true := by first | (simp [plainName, overriddenIn]; done) | decide +kernel
theorem pn_2 : plainName "com/example/culpa/culpa/TieWastedEffortPinLaw" = true := by first | (simp [plainName, overriddenIn]; done) | decide +kernel
theorem own_cancel (a b : Int32) : (a + b) - a = b := Int32.toBitVec_inj.mp (by rw [Int32.toBitVec_sub, Int32.toBitVec_add, BitVec.add_comm, BitVec.add_sub_cancel])
theorem own_i64 (x : Int32) : x.toInt64.toInt = x.toInt := Int32.toInt_toInt64 x
theorem own_l1 : (1 : Int32).toInt = 1 := by decide
theorem own_b53 (x : Int32) : B53 x.toInt64 := by
  have := Jvm.FP.Core.OwnFl.i32b x
  unfold B53; rw [own_i64]; omega
theorem own_rng {p1 p2 p3 p4 p5 f x q hf ab : Int32} (e_f : f = (1 : Int32) + (p1 &&& (32767 : Int32))) (e_x : x = p2 &&& (32767 : Int32)) (e_q : q = (1 : Int32) + ((p3 &&& (2147483647 : Int32)) % f)) (e_ab : ab = p5 &&& (65535 : Int32)) :
    (0 ≤ x.toInt ∧ x.toInt ≤ 32767) ∧ (1 ≤ f.toInt ∧ f.toInt ≤ 32768) ∧ (1 ≤ q.toInt ∧ q.toInt ≤ f.toInt) ∧ 0 ≤ ab.toInt ∧ ab.toInt ≤ 65535 := by
  have m1 : (p1 &&& (32767 : Int32)).toInt = p1.toInt % 2 ^ 15 := Jvm.Kit.i32_mask p1 32767 (by decide) (by decide)
  have m2 : x.toInt = p2.toInt % 2 ^ 15 := by rw [e_x]; exact Jvm.Kit.i32_mask p2 32767 (by decide) (by decide)
  have m3 : (p3 &&& (2147483647 : Int32)).toInt = p3.toInt % 2 ^ 31 := Jvm.Kit.i32_mask p3 2147483647 (by decide) (by decide)
  have m5 : ab.toInt = p5.toInt % 2 ^ 16 := by rw [e_ab]; exact Jvm.Kit.i32_mask p5 65535 (by decide) (by decide)
  have f1 : f.toInt = p1.toInt % 2 ^ 15 + 1 := by rw [e_f, Jvm.Kit.i32_add (by rw [m1, own_l1]; omega) (by rw [m1, own_l1]; omega), m1, own_l1]; omega
  have r1 : ((p3 &&& (2147483647 : Int32)) % f).toInt = (p3.toInt % 2 ^ 31) % f.toInt := by rw [Jvm.Kit.i32_rem_nonneg (by rw [m3]; omega), m3]
  have r2 := Int.emod_nonneg (p3.toInt % 2 ^ 31) (show f.toInt ≠ 0 by omega)
  have r3 := Int.emod_lt_of_pos (p3.toInt % 2 ^ 31) (show 0 < f.toInt by omega)
  have q1 : q.toInt = (p3.toInt % 2 ^ 31) % f.toInt + 1 := by rw [e_q, Jvm.Kit.i32_add (by rw [r1, own_l1]; omega) (by rw [r1, own_l1]; omega), r1, own_l1]; omega
  omega
theorem own_nzf {p1 f : Int32} (e_f : f = (1 : Int32) + (p1 &&& (32767 : Int32))) : f ≠ 0 ∧ f + (1 : Int32) ≠ 0 := by
  have m1 : (p1 &&& (32767 : Int32)).toInt = p1.toInt % 2 ^ 15 := Jvm.Kit.i32_mask p1 32767 (by decide) (by decide)
  have f1 : f.toInt = p1.toInt % 2 ^ 15 + 1 := by rw [e_f, Jvm.Kit.i32_add (by rw [m1, own_l1]; omega) (by rw [m1, own_l1]; omega), m1, own_l1]; omega
  have f2 : (f + (1 : Int32)).toInt = f.toInt + 1 := by rw [Jvm.Kit.i32_add (by rw [own_l1]; omega) (by rw [own_l1]; omega), own_l1]
  have z : (0 : Int32).toInt = 0 := by decide
  exact ⟨fun e => by have := congrArg Int32.toInt e; omega, fun e => by have := congrArg Int32.toInt e; omega⟩
abbrev own_Y (x q f : Int32) : UInt64 := FP.ddiv (FP.dmul (FP.i2d x) (FP.i2d q)) (FP.i2d (f + (1 : Int32)))
abbrev own_W (ab x q f : Int32) : UInt64 := FP.dadd (FP.i2d ab) (own_Y x q f)
abbrev own_B (ab x q f : Int32) : UInt64 := FP.l2d (ab.toInt64 + ((x * q) / (f + (1 : Int32))).toInt64)
abbrev own_F (ab x q f : Int32) : UInt64 := FP.dsub (own_W ab x q f) (own_B ab x q f)
abbrev own_S (ab x q f : Int32) : UInt64 := FP.dmul (own_F ab x q f) (FP.i2d (f + (1 : Int32)))
theorem own_half : Jvm.FP.Core.OwnFl.zv 4602678819172646912 = (Jvm.FP.Core.OwnFl.half64 : Int) := by unfold Jvm.FP.Core.OwnFl.zv; decide +kernel
theorem own_halff : Jvm.FP.Core.DFin 4602678819172646912 := (Jvm.FP.Core.fin_bits _).mpr (by decide)
theorem own_one : Jvm.FP.Core.OwnFl.zv 4607182418800017408 = (Jvm.FP.Core.one64 : Int) := by unfold Jvm.FP.Core.OwnFl.zv; decide +kernel
theorem own_onef : Jvm.FP.Core.DFin 4607182418800017408 := (Jvm.FP.Core.fin_bits _).mpr (by decide)
theorem own_fin0 : Jvm.FP.Core.DFin 0 := (Jvm.FP.Core.fin_bits _).mpr (by decide)
theorem own_zv0 : Jvm.FP.Core.OwnFl.zv 0 = 0 := Jvm.FP.Core.zval64_zero
theorem own_sgn {x : Int32} (h : 0 ≤ x.toInt) : Jvm.FP.Core.sgn (Jvm.FP.Core.val64 (FP.i2d x)) = false := by rw [i2d_w]; exact Jvm.FP.Core.OwnFl.sgn_l2d (by rw [own_i64]; exact h)
theorem own_h1 (r h : Int) : (2 * r - 1) * h = r * (2 * h) - h := by rw [Int.sub_mul, Int.one_mul, Int.mul_assoc, Int.mul_left_comm]
theorem own_h2 (r h : Int) : (2 * r + 1) * h = r * (2 * h) + h := by rw [Int.add_mul, Int.one_mul, Int.mul_assoc, Int.mul_left_comm]
theorem own_sm {r d : Nat} (h : r < d) (hd : d ≤ 32769) : (2 * (r : Int) - 1).natAbs < 2 ^ 53 ∧ (2 * (r : Int) + 1).natAbs < 2 ^ 53 := by omega
theorem own_c1 {r : Nat} (h : 1 ≤ r) : (2 * (r : Int) - 1) * 2 < ((4 * r - 1 : Nat) : Int) := by omega
theorem own_c2 {r : Nat} : ((4 * r + 1 : Nat) : Int) < (2 * (r : Int) + 1) * 2 := by omega
theorem own_wst {x q f ab : Int32} (hx : 0 ≤ x.toInt ∧ x.toInt ≤ 32767) (hf : 1 ≤ f.toInt ∧ f.toInt ≤ 32768) (hq : 1 ≤ q.toInt ∧ q.toInt ≤ f.toInt) (hab : 0 ≤ ab.toInt ∧ ab.toInt ≤ 65535) :
    Jvm.Free.Fl.NoNaN64 (FP.dmul (FP.i2d x) (FP.i2d q)) ∧ Jvm.Free.Fl.NoNaN64 (own_Y x q f) ∧ Jvm.Free.Fl.NoNaN64 (own_W ab x q f) ∧ Jvm.Free.Fl.NoNaN64 (own_F ab x q f) ∧ Jvm.Free.Fl.NoNaN64 (own_S ab x q f) ∧
    ((x * q) % (f + (1 : Int32)) = 0 → cmpValue (FP.dcmp (own_W ab x q f) (own_B ab x q f)) .l = 0) ∧
    (¬ ((x * q) % (f + (1 : Int32)) = 0) → cmpValue (FP.dcmp (own_F ab x q f) 0) .l = 1 ∧ cmpValue (FP.dcmp (own_F ab x q f) 4607182418800017408) .g = -1 ∧
      Jvm.Free.Fl.NoNaN64 (FP.dsub (FP.i2d ((x * q) % (f + (1 : Int32)))) 4602678819172646912) ∧ cmpValue (FP.dcmp (own_S ab x q f) (FP.dsub (FP.i2d ((x * q) % (f + (1 : Int32)))) 4602678819172646912)) .l = 1 ∧
      Jvm.Free.Fl.NoNaN64 (FP.dadd (FP.i2d ((x * q) % (f + (1 : Int32)))) 4602678819172646912) ∧ cmpValue (FP.dcmp (own_S ab x q f) (FP.dadd (FP.i2d ((x * q) % (f + (1 : Int32)))) 4602678819172646912)) .g = -1) := by
  -- whole numbers
  have p1 : 0 ≤ x.toInt * q.toInt := Int.mul_nonneg (by omega) (by omega)
  have p2 : x.toInt * q.toInt ≤ 32767 * f.toInt := Int.mul_le_mul (by omega) (by omega) (by omega) (by omega)
  have en : (x * q).toInt = x.toInt * q.toInt := Jvm.Kit.i32_mul (by omega) (by omega)
  have ed : (f + (1 : Int32)).toInt = f.toInt + 1 := by rw [Jvm.Kit.i32_add (by rw [own_l1]; omega) (by rw [own_l1]; omega), own_l1]
  obtain ⟨n, hn⟩ : ∃ n : Nat, x.toInt * q.toInt = (n : Int) := ⟨(x.toInt * q.toInt).toNat, by omega⟩
  obtain ⟨d, hd⟩ : ∃ d : Nat, f.toInt + 1 = (d : Int) := ⟨(f.toInt + 1).toNat, by omega⟩
  obtain ⟨a, ha⟩ : ∃ a : Nat, ab.toInt = (a : Int) := ⟨ab.toInt.toNat, by omega⟩
  rw [hn] at en p1 p2
  rw [hd] at ed
  have eq1 : ((x * q) / (f + (1 : Int32))).toInt = ((n / d : Nat) : Int) := by rw [Jvm.Kit.i32_div (by omega), en, ed, Int.tdiv_eq_ediv_of_nonneg (by omega), Int.natCast_ediv]
  have eq2 : ((x * q) % (f + (1 : Int32))).toInt = ((n % d : Nat) : Int) := by rw [Jvm.Kit.i32_rem_nonneg (by omega), en, ed, Int.natCast_emod]
  have hQb : n / d ≤ 32767 := Nat.div_le_of_le_mul (by rw [Nat.mul_comm]; omega)
  have eB : (ab.toInt64 + ((x * q) / (f + (1 : Int32))).toInt64).toInt = ((a + n / d : Nat) : Int) := by
    generalize n / d = Qv at *
    rw [Jvm.Kit.i64_add (by rw [own_i64, own_i64, eq1]; omega) (by rw [own_i64, own_i64, eq1]; omega), own_i64, own_i64, eq1]; omega
  -- doubles
  have eN : FP.dmul (FP.i2d x) (FP.i2d q) = FP.l2d (x.toInt64 * q.toInt64) := by
    rw [i2d_w, i2d_w]
    refine dmul_k (A := 32767) (B := 32768) (by rw [own_i64]; omega) (by rw [own_i64]; omega) (by rw [own_i64]; omega) (by rw [own_i64]; omega) (by decide) (by decide) (by decide) (fun h => ?_) (fun h => ?_)
    · have := h.2; rw [Int64.lt_iff_toInt_lt, own_i64] at this; have z : (0 : Int64).toInt = 0 := by decide
      omega
    · have := h.2; rw [Int64.lt_iff_toInt_lt, own_i64] at this; have z : (0 : Int64).toInt = 0 := by decide
      omega
  have eNi : (x.toInt64 * q.toInt64).toInt = (n : Int) := by rw [Jvm.Kit.i64_mul (by rw [own_i64, own_i64, hn]; omega) (by rw [own_i64, own_i64, hn]; omega), own_i64, own_i64, hn]
  have zN : Jvm.FP.Core.OwnFl.zv (FP.dmul (FP.i2d x) (FP.i2d q)) = (n : Int) * (Jvm.FP.Core.one64 : Int) := by
    rw [eN]
    have := Jvm.FP.Core.OwnFl.l2d_z (x := x.toInt64 * q.toInt64) (by rw [eNi]; omega)
    rw [eNi] at this; exact this
  have fN : Jvm.FP.Core.DFin (FP.dmul (FP.i2d x) (FP.i2d q)) := by rw [eN]; exact Jvm.FP.Core.l2d_fin _
  have sN : Jvm.FP.Core.sgn (Jvm.FP.Core.val64 (FP.dmul (FP.i2d x) (FP.i2d q))) = false := by rw [eN]; exact Jvm.FP.Core.OwnFl.sgn_l2d (by rw [eNi]; omega)
  have zA : Jvm.FP.Core.OwnFl.zv (FP.i2d ab) = (a : Int) * (Jvm.FP.Core.one64 : Int) := by have := Jvm.FP.Core.OwnFl.i2d_z ab; rw [ha] at this; exact this
  have zD : Jvm.FP.Core.OwnFl.zv (FP.i2d (f + (1 : Int32))) = (d : Int) * (Jvm.FP.Core.one64 : Int) := by have := Jvm.FP.Core.OwnFl.i2d_z (f + (1 : Int32)); rw [ed] at this; exact this
  have zB : Jvm.FP.Core.OwnFl.zv (own_B ab x q f) = ((a + n / d : Nat) : Int) * (Jvm.FP.Core.one64 : Int) := by have := Jvm.FP.Core.OwnFl.l2d_z (x := ab.toInt64 + ((x * q) / (f + (1 : Int32))).toInt64) (by rw [eB, Int.natAbs_natCast]; exact Nat.le_trans (Nat.add_le_add (show a ≤ 65535 by omega) hQb) (by decide)); rw [eB] at this; exact this
  obtain ⟨fY, fW, fF, fS, c0, c1⟩ := Jvm.FP.Core.OwnFl.waste (A := FP.i2d ab) (N := FP.dmul (FP.i2d x) (FP.i2d q)) (D := FP.i2d (f + (1 : Int32))) (B := own_B ab x q f) (Jvm.FP.Core.i2d_fin _) fN (Jvm.FP.Core.i2d_fin _) (Jvm.FP.Core.l2d_fin _) zA zN zD zB sN (own_sgn (by omega)) (by omega) (by omega) (by omega) (by omega)
  have hr0 : (x * q) % (f + (1 : Int32)) = 0 ↔ n % d = 0 := by
    constructor
    · intro h; have := congrArg Int32.toInt h; rw [eq2] at this; have z : (0 : Int32).toInt = 0 := by decide
      omega
    · intro h; apply Int32.toInt_inj.mp; rw [eq2, h]; rfl
  refine ⟨Jvm.FP.Core.OwnFl.nn fN, Jvm.FP.Core.OwnFl.nn fY, Jvm.FP.Core.OwnFl.nn fW, Jvm.FP.Core.OwnFl.nn fF, Jvm.FP.Core.OwnFl.nn fS, fun h => ?_, fun h => ?_⟩
  · rw [show FP.dcmp (own_W ab x q f) (own_B ab x q f) = some .eq from Jvm.FP.Core.OwnFl.cmp_eq fW (Jvm.FP.Core.l2d_fin _) (c0 (hr0.mp h))]; rfl
  · obtain ⟨k1, k2, k3, k4⟩ := c1 (fun q => h (hr0.mpr q))
    have hrp : 1 ≤ n % d := by have : ¬ n % d = 0 := fun q => h (hr0.mpr q); omega
    have hrl := Nat.mod_lt n (show 0 < d by omega)
    have hdl : d ≤ 32769 := by omega
    have zr : Jvm.FP.Core.OwnFl.zv (FP.i2d ((x * q) % (f + (1 : Int32)))) = ((n % d : Nat) : Int) * (Jvm.FP.Core.one64 : Int) := by have := Jvm.FP.Core.OwnFl.i2d_z ((x * q) % (f + (1 : Int32))); rw [eq2] at this; exact this
    have oh := Jvm.FP.Core.OwnFl.one_half
    have hg : (Jvm.FP.Core.OwnFl.half64 : Int) = 2 * ((17179869184 * Jvm.FP.Core.OwnFl.gr : Nat) : Int) := by
      have e : Jvm.FP.Core.OwnFl.half64 = 2 * (17179869184 * Jvm.FP.Core.OwnFl.gr) := by
        unfold Jvm.FP.Core.OwnFl.half64 Jvm.FP.Core.OwnFl.gr
        have h35 : (2 : Nat) ^ 35 = 2 * 17179869184 := by decide
        rw [show 1073 = 35 + 1038 from rfl, Nat.pow_add, h35, Nat.mul_assoc]
      rw [e, Int.natCast_mul]; rfl
    have eh : ((2 ^ 1073 : Nat) : Int) = (Jvm.FP.Core.OwnFl.half64 : Int) := rfl
    have gp : (0 : Int) < ((17179869184 * Jvm.FP.Core.OwnFl.gr : Nat) : Int) := Int.ofNat_lt.mpr (Nat.mul_pos (by decide) Jvm.FP.Core.OwnFl.gr_pos)
    generalize n % d = r at *
    have s1 := Jvm.FP.Core.OwnFl.dsub_btw (a := FP.i2d ((x * q) % (f + (1 : Int32)))) (b := 4602678819172646912) (Jvm.FP.Core.i2d_fin _) own_halff (lo := 2 * (r : Int) - 1) (hi := 2 * (r : Int) - 1) (k := 1073) (own_sm hrl hdl).1 (own_sm hrl hdl).1 (by decide)
      (by rw [zr, own_half, eh, oh]; exact Int.le_of_eq (own_h1 _ _)) (by rw [zr, own_half, eh, oh]; exact Int.le_of_eq (own_h1 _ _).symm)
    have s2 := Jvm.FP.Core.OwnFl.dadd_btw (a := FP.i2d ((x * q) % (f + (1 : Int32)))) (b := 4602678819172646912) (Jvm.FP.Core.i2d_fin _) own_halff (lo := 2 * (r : Int) + 1) (hi := 2 * (r : Int) + 1) (k := 1073) (own_sm hrl hdl).2 (own_sm hrl hdl).2 (by decide)
      (by rw [zr, own_half, eh, oh]; exact Int.le_of_eq (own_h2 _ _)) (by rw [zr, own_half, eh, oh]; exact Int.le_of_eq (own_h2 _ _).symm)
    rw [eh, hg] at s1 s2
    obtain ⟨t1, t2, t3⟩ := s1
    obtain ⟨u1, u2, u3⟩ := s2
    have g1 : (2 * (r : Int) - 1) * (2 * ((17179869184 * Jvm.FP.Core.OwnFl.gr : Nat) : Int)) < ((4 * r - 1 : Nat) : Int) * ((17179869184 * Jvm.FP.Core.OwnFl.gr : Nat) : Int) := by
      rw [← Int.mul_assoc]; exact Int.mul_lt_mul_of_pos_right (own_c1 hrp) gp
    have g2 : ((4 * r + 1 : Nat) : Int) * ((17179869184 * Jvm.FP.Core.OwnFl.gr : Nat) : Int) < (2 * (r : Int) + 1) * (2 * ((17179869184 * Jvm.FP.Core.OwnFl.gr : Nat) : Int)) := by
      rw [← Int.mul_assoc]; exact Int.mul_lt_mul_of_pos_right own_c2 gp
    refine ⟨?_, ?_, Jvm.FP.Core.OwnFl.nn t1, ?_, Jvm.FP.Core.OwnFl.nn u1, ?_⟩
    · rw [show FP.dcmp (own_F ab x q f) 0 = some .gt from Jvm.FP.Core.OwnFl.cmp_gt fF own_fin0 (by rw [own_zv0]; exact k1)]; rfl
    · rw [show FP.dcmp (own_F ab x q f) 4607182418800017408 = some .lt from Jvm.FP.Core.OwnFl.cmp_lt fF own_onef (by rw [own_one]; exact k2)]; rfl
    · rw [show FP.dcmp (own_S ab x q f) _ = some .gt from Jvm.FP.Core.OwnFl.cmp_gt fS t1 (Int.lt_of_le_of_lt t3 (Int.lt_of_lt_of_le g1 k3))]; rfl
    · rw [show FP.dcmp (own_S ab x q f) _ = some .lt from Jvm.FP.Core.OwnFl.cmp_lt fS u1 (Int.lt_of_le_of_lt k4 (Int.lt_of_lt_of_le g2 u2))]; rfl

theorem d2_0 : decode jdk_30_method_1_code 0 = .ok (.aload_n 0, 1) := by decide +kernel
theorem d2_1 : decode jdk_30_method_1_code 1 = .ok (.invokespecial 1, 3) := by decide +kernel
theorem d2_4 : decode jdk_30_method_1_code 4 = .ok (.return_, 1) := by decide +kernel
theorem ef_2 (m : MethodId) (x0 : Addr) : entryFrame m #[(.ref x0)] 1 = mkF m 0 #[.val (.ref x0)] [] := by first | (simp [entryFrame, mkF, argsToLocals, Value.category]; done) | rfl
def Q2 (Z : State) (a1 : Addr) (h0 : Heap) (n0 : Nat) (v : Option Value) (h : Heap) (L : List Loc) : Prop := v = none ∧ Fr n0 L ∧ h = h0
set_option maxRecDepth 65536 in
set_option maxHeartbeats 40000000 in
theorem rm2 (l : Launch) (Z : State) (a0 : Array Value) (hw : ∀ d ∈ tables_1, d.before a0 Z = true) (ws : List Jvm.Cond) (a1 : Addr) (h0 : Heap) (n0 : Nat) (Z0 : n0 ≤ h0.size) :
    MetFree l (⟨"java/lang/Record", "<init>", "()V"⟩ : MethodName) (head1 (Jvm.Cond.code (⟨"java/lang/Record", "<init>", "()V"⟩ : MethodName) jdk_30_method_1_code 1 none :: ws) ({ frames := 1, cells := 0, slots := 0, locals := 12 } : Room)) (fun ar_ U_ => ar_ = #[(.ref a1)] ∧ Z.Warmed39 U_.vm ∧ U_.heap = h0) (fun _ _ _ _ _ => True) (fun _ U_ oc_ Ue_ => ∃ v_ L_, oc_ = .returned v_ ∧ Q2 Z a1 h0 n0 v_ Ue_.heap L_ ∧ FrameEnd U_ oc_ Ue_ L_ ({ frames := 1, cells := 0, slots := 0, locals := 12 } : Room).cells ({ frames := 1, cells := 0, slots := 0, locals := 12 } : Room).slots) := by
  refine MetFree.of_bodySF (plainFor_of_name pn_0) hisR ?_
  intro p e s m args below meth c s₁ Bd hml0 hP hK
  obtain ⟨rfl, hZ, hh⟩ := hP
  have hx := Bd.exec
  have hby := Bd.bytes
  have hml : c.maxLocals = 1 := hml0
  have hown : s.vm.findClass "java/lang/Record" = some m.cls := findClass_of_methodNamed Bd.named
  have hnm := (name_of_methodNamed Bd.named Bd.method).1
  have X0 : Stand p l e ({ frames := 1, cells := 0, slots := 0, locals := 12 } : Room) s m #[(.ref a1)] below meth c s₁ [] 0 0 := Stand.of_body Bd
  have e0 : s₁.heap = h0 := by rw [← hh, Bd.state]; rfl
  have N0 := Fr.nil n0
  show OwnEnds p e below s (Q2 Z a1 h0 n0) ({ frames := 1, cells := 0, slots := 0, locals := 12 } : Room).cells ({ frames := 1, cells := 0, slots := 0, locals := 12 } : Room).slots (s₁.setTop (entryFrame m #[(.ref a1)] 1))
  rw [ef_2]
  show OwnEnds _ _ _ _ _ _ _ (s₁.setTop (mkF m 0 #[.val (.ref a1)] []))
  refine OwnEnds.st (fun t k => XS.aloadN X0.here hx rfl (hb hby d2_0) rfl rfl k) ?_
  show OwnEnds _ _ _ _ _ _ _ (s₁.setTop (mkF m 1 #[.val (.ref a1)] [(.ref a1)]))
  obtain ⟨T1, X1, e1, st1⟩ := initO X0 hx hZ hown (hw _ (List.mem_of_getElem? (i := 13) rfl)) (hw _ (List.mem_of_getElem? (i := 14) rfl)) (hw _ (List.mem_of_getElem? (i := 15) rfl)) e0 (g := (mkF m 1 #[.val (.ref a1)] [(.ref a1)])) rfl (by rw [hml]; rfl) rfl (hb hby d2_1) (by decide) (W := 0) (by show 2 * 0 + _ ≤ _; exact Nat.le_of_eq rfl) (by decide)
  refine OwnEnds.st st1 ?_
  show OwnEnds _ _ _ _ _ _ _ (T1.setTop (mkF m 4 #[.val (.ref a1)] []))
  refine own_retV X1 hx Bd.returns Bd.notSynchronized (hb hby d2_4) ?_ (by decide) (by decide)
  show Q2 Z a1 h0 n0 _ T1.heap _
  rw [e1]
  exact ⟨rfl, N0, rfl⟩
theorem d1_0 : decode prog_7_method_1_code 0 = .ok (.aload_n 0, 1) := by decide +kernel
theorem d1_1 : decode prog_7_method_1_code 1 = .ok (.invokespecial 1, 3) := by decide +kernel
theorem d1_4 : decode prog_7_method_1_code 4 = .ok (.aload_n 0, 1) := by decide +kernel
theorem d1_5 : decode prog_7_method_1_code 5 = .ok (.iload_n 1, 1) := by decide +kernel
theorem d1_6 : decode prog_7_method_1_code 6 = .ok (.putfield 7, 3) := by decide +kernel
theorem d1_9 : decode prog_7_method_1_code 9 = .ok (.aload_n 0, 1) := by decide +kernel
theorem d1_10 : decode prog_7_method_1_code 10 = .ok (.iload_n 2, 1) := by decide +kernel
theorem d1_11 : decode prog_7_method_1_code 11 = .ok (.putfield 13, 3) := by decide +kernel
theorem d1_14 : decode prog_7_method_1_code 14 = .ok (.aload_n 0, 1) := by decide +kernel
theorem d1_15 : decode prog_7_method_1_code 15 = .ok (.iload_n 3, 1) := by decide +kernel
theorem d1_16 : decode prog_7_method_1_code 16 = .ok (.putfield 16, 3) := by decide +kernel
theorem d1_19 : decode prog_7_method_1_code 19 = .ok (.aload_n 0, 1) := by decide +kernel
theorem d1_20 : decode prog_7_method_1_code 20 = .ok (.iload 4, 2) := by decide +kernel
theorem d1_22 : decode prog_7_method_1_code 22 = .ok (.putfield 19, 3) := by decide +kernel
theorem d1_25 : decode prog_7_method_1_code 25 = .ok (.return_, 1) := by decide +kernel
theorem ef_1 (m : MethodId) (x0 : Addr) (x1 : Int32) (x2 : Int32) (x3 : Int32) (x4 : Int32) : entryFrame m #[(.ref x0), (.int x1), (.int x2), (.int x3), (.int x4)] 5 = mkF m 0 #[.val (.ref x0), .val (.int x1), .val (.int x2), .val (.int x3), .val (.int x4)] [] := by first | (simp [entryFrame, mkF, argsToLocals, Value.category]; done) | rfl
def Q1 (Z : State) (a1 : Addr) (p2 : Int32) (p3 : Int32) (p4 : Int32) (p5 : Int32) (u0 : Value) (u1 : Value) (u2 : Value) (u3 : Value) (h0 : Heap) (n0 : Nat) (v : Option Value) (h : Heap) (L : List Loc) : Prop := v = none ∧ Fr n0 L ∧ Keep h0 h [a1] ∧ Exa Z h a1 "com/example/culpa/culpa/FaultPlacement$Tie" ∧ Fld Z h a1 "com/example/culpa/culpa/FaultPlacement$Tie" "higher" "I" (.int p2) ∧ Fld Z h a1 "com/example/culpa/culpa/FaultPlacement$Tie" "higherFaulty" "I" (.int p3) ∧ Fld Z h a1 "com/example/culpa/culpa/FaultPlacement$Tie" "size" "I" (.int p4) ∧ Fld Z h a1 "com/example/culpa/culpa/FaultPlacement$Tie" "faulty" "I" (.int p5)
set_option maxRecDepth 65536 in
set_option maxHeartbeats 40000000 in
theorem rm1 (l : Launch) (Z : State) (a0 : Array Value) (hw : ∀ d ∈ tables_1, d.before a0 Z = true) (ws : List Jvm.Cond) (a1 : Addr) (p2 : Int32) (p3 : Int32) (p4 : Int32) (p5 : Int32) (u0 : Value) (u1 : Value) (u2 : Value) (u3 : Value) (h0 : Heap) (n0 : Nat) (Z0 : n0 ≤ h0.size) (E_a1 : Exa Z h0 a1 "com/example/culpa/culpa/FaultPlacement$Tie") (g_a1 : n0 ≤ a1) (F_higher : Fld Z h0 a1 "com/example/culpa/culpa/FaultPlacement$Tie" "higher" "I" u0) (F_higherFaulty : Fld Z h0 a1 "com/example/culpa/culpa/FaultPlacement$Tie" "higherFaulty" "I" u1) (F_size : Fld Z h0 a1 "com/example/culpa/culpa/FaultPlacement$Tie" "size" "I" u2) (F_faulty : Fld Z h0 a1 "com/example/culpa/culpa/FaultPlacement$Tie" "faulty" "I" u3) :
    MetFree l (⟨"com/example/culpa/culpa/FaultPlacement$Tie", "<init>", "(IIII)V"⟩ : MethodName) (head1 (Jvm.Cond.code (⟨"com/example/culpa/culpa/FaultPlacement$Tie", "<init>", "(IIII)V"⟩ : MethodName) prog_7_method_1_code 5 none :: ws) ({ frames := 2, cells := 0, slots := 0, locals := 24 } : Room)) (fun ar_ U_ => ar_ = #[(.ref a1), (.int p2), (.int p3), (.int p4), (.int p5)] ∧ Z.Warmed39 U_.vm ∧ U_.heap = h0) (fun _ _ _ _ _ => True) (fun _ U_ oc_ Ue_ => ∃ v_ L_, oc_ = .returned v_ ∧ Q1 Z a1 p2 p3 p4 p5 u0 u1 u2 u3 h0 n0 v_ Ue_.heap L_ ∧ FrameEnd U_ oc_ Ue_ L_ ({ frames := 2, cells := 0, slots := 0, locals := 24 } : Room).cells ({ frames := 2, cells := 0, slots := 0, locals := 24 } : Room).slots) := by
  refine MetFree.of_bodySF (plainFor_of_name pn_1) hisR ?_
  intro p e s m args below meth c s₁ Bd hml0 hP hK
  obtain ⟨rfl, hZ, hh⟩ := hP
  have hx := Bd.exec
  have hby := Bd.bytes
  have hml : c.maxLocals = 5 := hml0
  have hown : s.vm.findClass "com/example/culpa/culpa/FaultPlacement$Tie" = some m.cls := findClass_of_methodNamed Bd.named
  have hnm := (name_of_methodNamed Bd.named Bd.method).1
  have X0 : Stand p l e ({ frames := 2, cells := 0, slots := 0, locals := 24 } : Room) s m #[(.ref a1), (.int p2), (.int p3), (.int p4), (.int p5)] below meth c s₁ [] 0 0 := Stand.of_body Bd
  have e0 : s₁.heap = h0 := by rw [← hh, Bd.state]; rfl
  have N0 := Fr.nil n0
  show OwnEnds p e below s (Q1 Z a1 p2 p3 p4 p5 u0 u1 u2 u3 h0 n0) ({ frames := 2, cells := 0, slots := 0, locals := 24 } : Room).cells ({ frames := 2, cells := 0, slots := 0, locals := 24 } : Room).slots (s₁.setTop (entryFrame m #[(.ref a1), (.int p2), (.int p3), (.int p4), (.int p5)] 5))
  rw [ef_1]
  show OwnEnds _ _ _ _ _ _ _ (s₁.setTop (mkF m 0 #[.val (.ref a1), .val (.int p2), .val (.int p3), .val (.int p4), .val (.int p5)] []))
  refine OwnEnds.st (fun t k => XS.aloadN X0.here hx rfl (hb hby d1_0) rfl rfl k) ?_
  show OwnEnds _ _ _ _ _ _ _ (s₁.setTop (mkF m 1 #[.val (.ref a1), .val (.int p2), .val (.int p3), .val (.int p4), .val (.int p5)] [(.ref a1)]))
  obtain ⟨_, _, ⟨T1, L1, k1, n1⟩, -, X1, ⟨Lc1, hQ1, l1, y1, z1⟩, st1⟩ := X0.specialBack hx (y := (⟨"java/lang/Record", "<init>", "()V"⟩ : MethodName)) rfl hown (mvT hZ (hw _ (List.mem_of_getElem? (i := 8) rfl))) (mvT hZ (hw _ (List.mem_of_getElem? (i := 9) rfl))) (mvT hZ (hw _ (List.mem_of_getElem? (i := 12) rfl))) (by decide) (backOf (W := 0) (rm2 l Z a0 hw [] a1 h0 n0 Z0) hZ (hw _ (List.mem_of_getElem? (i := 12) rfl)) (hw _ (List.mem_of_getElem? (i := 11) rfl)) (by decide) (by decide)) (g := (mkF m 1 #[.val (.ref a1), .val (.int p2), .val (.int p3), .val (.int p4), .val (.int p5)] [(.ref a1)])) rfl (by rw [hml]; rfl) (Steps.refl _) (a := a1) (argsL := []) (rest := []) (lenOf pd_0 rfl) rfl (by show 2 * 0 + _ ≤ _; exact Nat.le_of_eq rfl) (hb hby d1_1) (fun _ _ => ⟨rfl, e0, (by decide : 0 + 0 ≤ _), (by decide : 0 + 0 ≤ _)⟩)
  dsimp only [Pt.U, Pt.locs, Pt.cells, Pt.slots] at X1 l1 y1 z1 st1 hQ1
  subst l1 y1 z1
  obtain ⟨rfl, N1q, hh1⟩ := hQ1
  have N1 := Fr.app N0 N1q
  refine OwnEnds.go st1 ?_
  show OwnEnds _ _ _ _ _ _ _ (T1.setTop (mkF m 4 #[.val (.ref a1), .val (.int p2), .val (.int p3), .val (.int p4), .val (.int p5)] []))
  refine OwnEnds.st (fun t k => XS.aloadN X1.here hx rfl (hb hby d1_4) rfl rfl k) ?_
  show OwnEnds _ _ _ _ _ _ _ (T1.setTop (mkF m 5 #[.val (.ref a1), .val (.int p2), .val (.int p3), .val (.int p4), .val (.int p5)] [(.ref a1)]))
  refine OwnEnds.st (fun t k => XS.iloadN X1.here hx rfl (hb hby d1_5) rfl k) ?_
  show OwnEnds _ _ _ _ _ _ _ (T1.setTop (mkF m 6 #[.val (.ref a1), .val (.int p2), .val (.int p3), .val (.int p4), .val (.int p5)] [(.int p2), (.ref a1)]))
  obtain ⟨T2, h2, X2, e2, W2, st2⟩ := putF X1 hx hZ hown (host := "") (Or.inl (hw _ (List.mem_of_getElem? (i := 16) rfl))) Via.refl hh1 F_higher E_a1 (Or.inr ⟨(hw _ (List.mem_of_getElem? (i := 17) rfl)), rfl, hnm⟩) (hw _ (List.mem_of_getElem? (i := 3) rfl)) (ty := .int) (by decide) rfl rfl (g := (mkF m 6 #[.val (.ref a1), .val (.int p2), .val (.int p3), .val (.int p4), .val (.int p5)] [(.int p2), (.ref a1)])) rfl rfl (hb hby d1_6)
  have N2 := Fr.snoc X2 N1 g_a1
  refine OwnEnds.st st2 ?_
  show OwnEnds _ _ _ _ _ _ _ (T2.setTop (mkF m 9 #[.val (.ref a1), .val (.int p2), .val (.int p3), .val (.int p4), .val (.int p5)] []))
  refine OwnEnds.st (fun t k => XS.aloadN X2.here hx rfl (hb hby d1_9) rfl rfl k) ?_
  show OwnEnds _ _ _ _ _ _ _ (T2.setTop (mkF m 10 #[.val (.ref a1), .val (.int p2), .val (.int p3), .val (.int p4), .val (.int p5)] [(.ref a1)]))
  refine OwnEnds.st (fun t k => XS.iloadN X2.here hx rfl (hb hby d1_10) rfl k) ?_
  show OwnEnds _ _ _ _ _ _ _ (T2.setTop (mkF m 11 #[.val (.ref a1), .val (.int p2), .val (.int p3), .val (.int p4), .val (.int p5)] [(.int p3), (.ref a1)]))
  obtain ⟨T3, h3, X3, e3, W3, st3⟩ := putF X2 hx hZ hown (host := "") (Or.inl (hw _ (List.mem_of_getElem? (i := 18) rfl))) Via.refl e2 (F_higherFaulty.other W2 (Or.inr (slot_ne (Or.inr (hw _ (List.mem_of_getElem? (i := 19) rfl))) (Or.inr (hw _ (List.mem_of_getElem? (i := 17) rfl))) (by decide) (t := .int) (t' := .int) (by decide) (by decide)))) (E_a1.wr W2) (Or.inr ⟨(hw _ (List.mem_of_getElem? (i := 19) rfl)), rfl, hnm⟩) (hw _ (List.mem_of_getElem? (i := 3) rfl)) (ty := .int) (by decide) rfl rfl (g := (mkF m 11 #[.val (.ref a1), .val (.int p2), .val (.int p3), .val (.int p4), .val (.int p5)] [(.int p3), (.ref a1)])) rfl rfl (hb hby d1_11)
  have N3 := Fr.snoc X3 N2 g_a1
  refine OwnEnds.st st3 ?_
  show OwnEnds _ _ _ _ _ _ _ (T3.setTop (mkF m 14 #[.val (.ref a1), .val (.int p2), .val (.int p3), .val (.int p4), .val (.int p5)] []))
  refine OwnEnds.st (fun t k => XS.aloadN X3.here hx rfl (hb hby d1_14) rfl rfl k) ?_
  show OwnEnds _ _ _ _ _ _ _ (T3.setTop (mkF m 15 #[.val (.ref a1), .val (.int p2), .val (.int p3), .val (.int p4), .val (.int p5)] [(.ref a1)]))
  refine OwnEnds.st (fun t k => XS.iloadN X3.here hx rfl (hb hby d1_15) rfl k) ?_
  show OwnEnds _ _ _ _ _ _ _ (T3.setTop (mkF m 16 #[.val (.ref a1), .val (.int p2), .val (.int p3), .val (.int p4), .val (.int p5)] [(.int p4), (.ref a1)]))
  obtain ⟨T4, h4, X4, e4, W4, st4⟩ := putF X3 hx hZ hown (host := "") (Or.inl (hw _ (List.mem_of_getElem? (i := 20) rfl))) Via.refl e3 ((F_size.other W2 (Or.inr (slot_ne (Or.inr (hw _ (List.mem_of_getElem? (i := 21) rfl))) (Or.inr (hw _ (List.mem_of_getElem? (i := 17) rfl))) (by decide) (t := .int) (t' := .int) (by decide) (by decide)))).other W3 (Or.inr (slot_ne (Or.inr (hw _ (List.mem_of_getElem? (i := 21) rfl))) (Or.inr (hw _ (List.mem_of_getElem? (i := 19) rfl))) (by decide) (t := .int) (t' := .int) (by decide) (by decide)))) ((E_a1.wr W2).wr W3) (Or.inr ⟨(hw _ (List.mem_of_getElem? (i := 21) rfl)), rfl, hnm⟩) (hw _ (List.mem_of_getElem? (i := 3) rfl)) (ty := .int) (by decide) rfl rfl (g := (mkF m 16 #[.val (.ref a1), .val (.int p2), .val (.int p3), .val (.int p4), .val (.int p5)] [(.int p4), (.ref a1)])) rfl rfl (hb hby d1_16)
  have N4 := Fr.snoc X4 N3 g_a1
  refine OwnEnds.st st4 ?_
  show OwnEnds _ _ _ _ _ _ _ (T4.setTop (mkF m 19 #[.val (.ref a1), .val (.int p2), .val (.int p3), .val (.int p4), .val (.int p5)] []))
  refine OwnEnds.st (fun t k => XS.aloadN X4.here hx rfl (hb hby d1_19) rfl rfl k) ?_
  show OwnEnds _ _ _ _ _ _ _ (T4.setTop (mkF m 20 #[.val (.ref a1), .val (.int p2), .val (.int p3), .val (.int p4), .val (.int p5)] [(.ref a1)]))
  refine OwnEnds.st (fun t k => XS.iload X4.here hx rfl (hb hby d1_20) rfl k) ?_
  show OwnEnds _ _ _ _ _ _ _ (T4.setTop (mkF m 22 #[.val (.ref a1), .val (.int p2), .val (.int p3), .val (.int p4), .val (.int p5)] [(.int p5), (.ref a1)]))
  obtain ⟨T5, h5, X5, e5, W5, st5⟩ := putF X4 hx hZ hown (host := "") (Or.inl (hw _ (List.mem_of_getElem? (i := 22) rfl))) Via.refl e4 (((F_faulty.other W2 (Or.inr (slot_ne (Or.inr (hw _ (List.mem_of_getElem? (i := 23) rfl))) (Or.inr (hw _ (List.mem_of_getElem? (i := 17) rfl))) (by decide) (t := .int) (t' := .int) (by decide) (by decide)))).other W3 (Or.inr (slot_ne (Or.inr (hw _ (List.mem_of_getElem? (i := 23) rfl))) (Or.inr (hw _ (List.mem_of_getElem? (i := 19) rfl))) (by decide) (t := .int) (t' := .int) (by decide) (by decide)))).other W4 (Or.inr (slot_ne (Or.inr (hw _ (List.mem_of_getElem? (i := 23) rfl))) (Or.inr (hw _ (List.mem_of_getElem? (i := 21) rfl))) (by decide) (t := .int) (t' := .int) (by decide) (by decide)))) (((E_a1.wr W2).wr W3).wr W4) (Or.inr ⟨(hw _ (List.mem_of_getElem? (i := 23) rfl)), rfl, hnm⟩) (hw _ (List.mem_of_getElem? (i := 3) rfl)) (ty := .int) (by decide) rfl rfl (g := (mkF m 22 #[.val (.ref a1), .val (.int p2), .val (.int p3), .val (.int p4), .val (.int p5)] [(.int p5), (.ref a1)])) rfl rfl (hb hby d1_22)
  have N5 := Fr.snoc X5 N4 g_a1
  refine OwnEnds.st st5 ?_
  show OwnEnds _ _ _ _ _ _ _ (T5.setTop (mkF m 25 #[.val (.ref a1), .val (.int p2), .val (.int p3), .val (.int p4), .val (.int p5)] []))
  refine own_retV X5 hx Bd.returns Bd.notSynchronized (hb hby d1_25) ?_ (by decide) (by decide)
  show Q1 Z a1 p2 p3 p4 p5 u0 u1 u2 u3 h0 n0 _ T5.heap _
  rw [e5]
  exact ⟨rfl, N5, (((((Keep.refl h0 [a1]).wr W2 (Or.inl (List.mem_of_getElem? (i := 0) rfl))).wr W3 (Or.inl (List.mem_of_getElem? (i := 0) rfl))).wr W4 (Or.inl (List.mem_of_getElem? (i := 0) rfl))).wr W5 (Or.inl (List.mem_of_getElem? (i := 0) rfl))), ((((E_a1.wr W2).wr W3).wr W4).wr W5), ((((F_higher.same W2).other W3 (Or.inr (slot_ne (Or.inr (hw _ (List.mem_of_getElem? (i := 17) rfl))) (Or.inr (hw _ (List.mem_of_getElem? (i := 19) rfl))) (by decide) (t := .int) (t' := .int) (by decide) (by decide)))).other W4 (Or.inr (slot_ne (Or.inr (hw _ (List.mem_of_getElem? (i := 17) rfl))) (Or.inr (hw _ (List.mem_of_getElem? (i := 21) rfl))) (by decide) (t := .int) (t' := .int) (by decide) (by decide)))).other W5 (Or.inr (slot_ne (Or.inr (hw _ (List.mem_of_getElem? (i := 17) rfl))) (Or.inr (hw _ (List.mem_of_getElem? (i := 23) rfl))) (by decide) (t := .int) (t' := .int) (by decide) (by decide)))), ((((F_higherFaulty.other W2 (Or.inr (slot_ne (Or.inr (hw _ (List.mem_of_getElem? (i := 19) rfl))) (Or.inr (hw _ (List.mem_of_getElem? (i := 17) rfl))) (by decide) (t := .int) (t' := .int) (by decide) (by decide)))).same W3).other W4 (Or.inr (slot_ne (Or.inr (hw _ (List.mem_of_getElem? (i := 19) rfl))) (Or.inr (hw _ (List.mem_of_getElem? (i := 21) rfl))) (by decide) (t := .int) (t' := .int) (by decide) (by decide)))).other W5 (Or.inr (slot_ne (Or.inr (hw _ (List.mem_of_getElem? (i := 19) rfl))) (Or.inr (hw _ (List.mem_of_getElem? (i := 23) rfl))) (by decide) (t := .int) (t' := .int) (by decide) (by decide)))), ((((F_size.other W2 (Or.inr (slot_ne (Or.inr (hw _ (List.mem_of_getElem? (i := 21) rfl))) (Or.inr (hw _ (List.mem_of_getElem? (i := 17) rfl))) (by decide) (t := .int) (t' := .int) (by decide) (by decide)))).other W3 (Or.inr (slot_ne (Or.inr (hw _ (List.mem_of_getElem? (i := 21) rfl))) (Or.inr (hw _ (List.mem_of_getElem? (i := 19) rfl))) (by decide) (t := .int) (t' := .int) (by decide) (by decide)))).same W4).other W5 (Or.inr (slot_ne (Or.inr (hw _ (List.mem_of_getElem? (i := 21) rfl))) (Or.inr (hw _ (List.mem_of_getElem? (i := 23) rfl))) (by decide) (t := .int) (t' := .int) (by decide) (by decide)))), ((((F_faulty.other W2 (Or.inr (slot_ne (Or.inr (hw _ (List.mem_of_getElem? (i := 23) rfl))) (Or.inr (hw _ (List.mem_of_getElem? (i := 17) rfl))) (by decide) (t := .int) (t' := .int) (by decide) (by decide)))).other W3 (Or.inr (slot_ne (Or.inr (hw _ (List.mem_of_getElem? (i := 23) rfl))) (Or.inr (hw _ (List.mem_of_getElem? (i := 19) rfl))) (by decide) (t := .int) (t' := .int) (by decide) (by decide)))).other W4 (Or.inr (slot_ne (Or.inr (hw _ (List.mem_of_getElem? (i := 23) rfl))) (Or.inr (hw _ (List.mem_of_getElem? (i := 21) rfl))) (by decide) (t := .int) (t' := .int) (by decide) (by decide)))).same W5)⟩
theorem d4_0 : decode prog_7_method_3_code 0 = .ok (.aload_n 0, 1) := by decide +kernel
theorem d4_1 : decode prog_7_method_3_code 1 = .ok (.getfield 7, 3) := by decide +kernel
theorem d4_4 : decode prog_7_method_3_code 4 = .ok (.aload_n 0, 1) := by decide +kernel
theorem d4_5 : decode prog_7_method_3_code 5 = .ok (.getfield 13, 3) := by decide +kernel
theorem d4_8 : decode prog_7_method_3_code 8 = .ok (.isub, 1) := by decide +kernel
theorem d4_9 : decode prog_7_method_3_code 9 = .ok (.i2d, 1) := by decide +kernel
theorem d4_10 : decode prog_7_method_3_code 10 = .ok (.aload_n 0, 1) := by decide +kernel
theorem d4_11 : decode prog_7_method_3_code 11 = .ok (.getfield 16, 3) := by decide +kernel
theorem d4_14 : decode prog_7_method_3_code 14 = .ok (.aload_n 0, 1) := by decide +kernel
theorem d4_15 : decode prog_7_method_3_code 15 = .ok (.getfield 19, 3) := by decide +kernel
theorem d4_18 : decode prog_7_method_3_code 18 = .ok (.isub, 1) := by decide +kernel
theorem d4_19 : decode prog_7_method_3_code 19 = .ok (.i2d, 1) := by decide +kernel
theorem d4_20 : decode prog_7_method_3_code 20 = .ok (.iload_n 1, 1) := by decide +kernel
theorem d4_21 : decode prog_7_method_3_code 21 = .ok (.i2d, 1) := by decide +kernel
theorem d4_22 : decode prog_7_method_3_code 22 = .ok (.dmul, 1) := by decide +kernel
theorem d4_23 : decode prog_7_method_3_code 23 = .ok (.aload_n 0, 1) := by decide +kernel
theorem d4_24 : decode prog_7_method_3_code 24 = .ok (.getfield 19, 3) := by decide +kernel
theorem d4_27 : decode prog_7_method_3_code 27 = .ok (.iconst 1, 1) := by decide +kernel
theorem d4_28 : decode prog_7_method_3_code 28 = .ok (.iadd, 1) := by decide +kernel
theorem d4_29 : decode prog_7_method_3_code 29 = .ok (.i2d, 1) := by decide +kernel
theorem d4_30 : decode prog_7_method_3_code 30 = .ok (.ddiv, 1) := by decide +kernel
theorem d4_31 : decode prog_7_method_3_code 31 = .ok (.dadd, 1) := by decide +kernel
theorem d4_32 : decode prog_7_method_3_code 32 = .ok (.dreturn, 1) := by decide +kernel
theorem ef_4 (m : MethodId) (x0 : Addr) (x1 : Int32) : entryFrame m #[(.ref x0), (.int x1)] 2 = mkF m 0 #[.val (.ref x0), .val (.int x1)] [] := by first | (simp [entryFrame, mkF, argsToLocals, Value.category]; done) | rfl
def Q4 (Z : State) (a1 : Addr) (q : Int32) (p2 : Int32) (p3 : Int32) (p4 : Int32) (p5 : Int32) (h0 : Heap) (n0 : Nat) (v : Option Value) (h : Heap) (L : List Loc) : Prop := v = some (.double (FP.dadd (FP.i2d (p2 - p3)) (FP.ddiv (FP.dmul (FP.i2d (p4 - p5)) (FP.i2d q)) (FP.i2d (p5 + (1 : Int32)))))) ∧ Fr n0 L ∧ h = h0
set_option maxRecDepth 65536 in
set_option maxHeartbeats 40000000 in
theorem rm4 (l : Launch) (Z : State) (a0 : Array Value) (hw : ∀ d ∈ tables_1, d.before a0 Z = true) (ws : List Jvm.Cond) (a1 : Addr) (q : Int32) (p2 : Int32) (p3 : Int32) (p4 : Int32) (p5 : Int32) (h0 : Heap) (n0 : Nat) (Z0 : n0 ≤ h0.size) (F_1 : Fld Z h0 a1 "com/example/culpa/culpa/FaultPlacement$Tie" "higher" "I" (.int p2)) (F_2 : Fld Z h0 a1 "com/example/culpa/culpa/FaultPlacement$Tie" "higherFaulty" "I" (.int p3)) (F_3 : Fld Z h0 a1 "com/example/culpa/culpa/FaultPlacement$Tie" "size" "I" (.int p4)) (F_4 : Fld Z h0 a1 "com/example/culpa/culpa/FaultPlacement$Tie" "faulty" "I" (.int p5)) (hm : Jvm.Free.Fl.NoNaN64 (FP.dmul (FP.i2d (p4 - p5)) (FP.i2d q))) (hd : Jvm.Free.Fl.NoNaN64 (FP.ddiv (FP.dmul (FP.i2d (p4 - p5)) (FP.i2d q)) (FP.i2d (p5 + (1 : Int32))))) (hs : Jvm.Free.Fl.NoNaN64 (FP.dadd (FP.i2d (p2 - p3)) (FP.ddiv (FP.dmul (FP.i2d (p4 - p5)) (FP.i2d q)) (FP.i2d (p5 + (1 : Int32)))))) :
    MetFree l (⟨"com/example/culpa/culpa/FaultPlacement$Tie", "wastedEffort", "(I)D"⟩ : MethodName) (head1 (Jvm.Cond.code (⟨"com/example/culpa/culpa/FaultPlacement$Tie", "wastedEffort", "(I)D"⟩ : MethodName) prog_7_method_3_code 2 (some .double) :: ws) ({ frames := 0, cells := 0, slots := 0, locals := 0 } : Room)) (fun ar_ U_ => ar_ = #[(.ref a1), (.int q)] ∧ Z.Warmed39 U_.vm ∧ U_.heap = h0) (fun _ _ _ _ _ => True) (fun _ U_ oc_ Ue_ => ∃ v_ L_, oc_ = .returned v_ ∧ Q4 Z a1 q p2 p3 p4 p5 h0 n0 v_ Ue_.heap L_ ∧ FrameEnd U_ oc_ Ue_ L_ ({ frames := 0, cells := 0, slots := 0, locals := 0 } : Room).cells ({ frames := 0, cells := 0, slots := 0, locals := 0 } : Room).slots) := by
  refine MetFree.of_bodySF (plainFor_of_name pn_1) hisR ?_
  intro p e s m args below meth c s₁ Bd hml0 hP hK
  obtain ⟨rfl, hZ, hh⟩ := hP
  have hx := Bd.exec
  have hby := Bd.bytes
  have hml : c.maxLocals = 2 := hml0
  have hown : s.vm.findClass "com/example/culpa/culpa/FaultPlacement$Tie" = some m.cls := findClass_of_methodNamed Bd.named
  have hnm := (name_of_methodNamed Bd.named Bd.method).1
  have X0 : Stand p l e ({ frames := 0, cells := 0, slots := 0, locals := 0 } : Room) s m #[(.ref a1), (.int q)] below meth c s₁ [] 0 0 := Stand.of_body Bd
  have e0 : s₁.heap = h0 := by rw [← hh, Bd.state]; rfl
  have N0 := Fr.nil n0
  show OwnEnds p e below s (Q4 Z a1 q p2 p3 p4 p5 h0 n0) ({ frames := 0, cells := 0, slots := 0, locals := 0 } : Room).cells ({ frames := 0, cells := 0, slots := 0, locals := 0 } : Room).slots (s₁.setTop (entryFrame m #[(.ref a1), (.int q)] 2))
  rw [ef_4]
  show OwnEnds _ _ _ _ _ _ _ (s₁.setTop (mkF m 0 #[.val (.ref a1), .val (.int q)] []))
  refine OwnEnds.st (fun t k => XS.aloadN X0.here hx rfl (hb hby d4_0) rfl rfl k) ?_
  show OwnEnds _ _ _ _ _ _ _ (s₁.setTop (mkF m 1 #[.val (.ref a1), .val (.int q)] [(.ref a1)]))
  obtain ⟨T1, X1, e1, st1⟩ := getF X0 hx hZ hown (host := "") (Or.inl (hw _ (List.mem_of_getElem? (i := 16) rfl))) Via.refl e0 F_1 (g := (mkF m 1 #[.val (.ref a1), .val (.int q)] [(.ref a1)])) rfl rfl (hb hby d4_1)
  refine OwnEnds.st st1 ?_
  show OwnEnds _ _ _ _ _ _ _ (T1.setTop (mkF m 4 #[.val (.ref a1), .val (.int q)] [(.int p2)]))
  refine OwnEnds.st (fun t k => XS.aloadN X1.here hx rfl (hb hby d4_4) rfl rfl k) ?_
  show OwnEnds _ _ _ _ _ _ _ (T1.setTop (mkF m 5 #[.val (.ref a1), .val (.int q)] [(.ref a1), (.int p2)]))
  obtain ⟨T2, X2, e2, st2⟩ := getF X1 hx hZ hown (host := "") (Or.inl (hw _ (List.mem_of_getElem? (i := 18) rfl))) Via.refl e1 F_2 (g := (mkF m 5 #[.val (.ref a1), .val (.int q)] [(.ref a1), (.int p2)])) rfl rfl (hb hby d4_5)
  refine OwnEnds.st st2 ?_
  show OwnEnds _ _ _ _ _ _ _ (T2.setTop (mkF m 8 #[.val (.ref a1), .val (.int q)] [(.int p3), (.int p2)]))
  refine OwnEnds.st (fun t k => XS.isub X2.here hx rfl (hb hby d4_8) rfl k) ?_
  show OwnEnds _ _ _ _ _ _ _ (T2.setTop (mkF m 9 #[.val (.ref a1), .val (.int q)] [(.int (p2 - p3))]))
  refine OwnEnds.st (fun t k => XS.i2dS X2.here hx rfl (hb hby d4_9) rfl rfl k) ?_
  show OwnEnds _ _ _ _ _ _ _ (T2.setTop (mkF m 10 #[.val (.ref a1), .val (.int q)] [(.double (FP.i2d (p2 - p3)))]))
  refine OwnEnds.st (fun t k => XS.aloadN X2.here hx rfl (hb hby d4_10) rfl rfl k) ?_
  show OwnEnds _ _ _ _ _ _ _ (T2.setTop (mkF m 11 #[.val (.ref a1), .val (.int q)] [(.ref a1), (.double (FP.i2d (p2 - p3)))]))
  obtain ⟨T3, X3, e3, st3⟩ := getF X2 hx hZ hown (host := "") (Or.inl (hw _ (List.mem_of_getElem? (i := 20) rfl))) Via.refl e2 F_3 (g := (mkF m 11 #[.val (.ref a1), .val (.int q)] [(.ref a1), (.double (FP.i2d (p2 - p3)))])) rfl rfl (hb hby d4_11)
  refine OwnEnds.st st3 ?_
  show OwnEnds _ _ _ _ _ _ _ (T3.setTop (mkF m 14 #[.val (.ref a1), .val (.int q)] [(.int p4), (.double (FP.i2d (p2 - p3)))]))
  refine OwnEnds.st (fun t k => XS.aloadN X3.here hx rfl (hb hby d4_14) rfl rfl k) ?_
  show OwnEnds _ _ _ _ _ _ _ (T3.setTop (mkF m 15 #[.val (.ref a1), .val (.int q)] [(.ref a1), (.int p4), (.double (FP.i2d (p2 - p3)))]))
  obtain ⟨T4, X4, e4, st4⟩ := getF X3 hx hZ hown (host := "") (Or.inl (hw _ (List.mem_of_getElem? (i := 22) rfl))) Via.refl e3 F_4 (g := (mkF m 15 #[.val (.ref a1), .val (.int q)] [(.ref a1), (.int p4), (.double (FP.i2d (p2 - p3)))])) rfl rfl (hb hby d4_15)
  refine OwnEnds.st st4 ?_
  show OwnEnds _ _ _ _ _ _ _ (T4.setTop (mkF m 18 #[.val (.ref a1), .val (.int q)] [(.int p5), (.int p4), (.double (FP.i2d (p2 - p3)))]))
  refine OwnEnds.st (fun t k => XS.isub X4.here hx rfl (hb hby d4_18) rfl k) ?_
  show OwnEnds _ _ _ _ _ _ _ (T4.setTop (mkF m 19 #[.val (.ref a1), .val (.int q)] [(.int (p4 - p5)), (.double (FP.i2d (p2 - p3)))]))
  refine OwnEnds.st (fun t k => XS.i2dS X4.here hx rfl (hb hby d4_19) rfl rfl k) ?_
  show OwnEnds _ _ _ _ _ _ _ (T4.setTop (mkF m 20 #[.val (.ref a1), .val (.int q)] [(.double (FP.i2d (p4 - p5))), (.double (FP.i2d (p2 - p3)))]))
  refine OwnEnds.st (fun t k => XS.iloadN X4.here hx rfl (hb hby d4_20) rfl k) ?_
  show OwnEnds _ _ _ _ _ _ _ (T4.setTop (mkF m 21 #[.val (.ref a1), .val (.int q)] [(.int q), (.double (FP.i2d (p4 - p5))), (.double (FP.i2d (p2 - p3)))]))
  refine OwnEnds.st (fun t k => XS.i2dS X4.here hx rfl (hb hby d4_21) rfl rfl k) ?_
  show OwnEnds _ _ _ _ _ _ _ (T4.setTop (mkF m 22 #[.val (.ref a1), .val (.int q)] [(.double (FP.i2d q)), (.double (FP.i2d (p4 - p5))), (.double (FP.i2d (p2 - p3)))]))
  refine OwnEnds.st (fun t k => XS.dmulS X4.here hx rfl (hb hby d4_22) rfl hm rfl k) ?_
  show OwnEnds _ _ _ _ _ _ _ (T4.setTop (mkF m 23 #[.val (.ref a1), .val (.int q)] [(.double (FP.dmul (FP.i2d (p4 - p5)) (FP.i2d q))), (.double (FP.i2d (p2 - p3)))]))
  refine OwnEnds.st (fun t k => XS.aloadN X4.here hx rfl (hb hby d4_23) rfl rfl k) ?_
  show OwnEnds _ _ _ _ _ _ _ (T4.setTop (mkF m 24 #[.val (.ref a1), .val (.int q)] [(.ref a1), (.double (FP.dmul (FP.i2d (p4 - p5)) (FP.i2d q))), (.double (FP.i2d (p2 - p3)))]))
  obtain ⟨T5, X5, e5, st5⟩ := getF X4 hx hZ hown (host := "") (Or.inl (hw _ (List.mem_of_getElem? (i := 22) rfl))) Via.refl e4 F_4 (g := (mkF m 24 #[.val (.ref a1), .val (.int q)] [(.ref a1), (.double (FP.dmul (FP.i2d (p4 - p5)) (FP.i2d q))), (.double (FP.i2d (p2 - p3)))])) rfl rfl (hb hby d4_24)
  refine OwnEnds.st st5 ?_
  show OwnEnds _ _ _ _ _ _ _ (T5.setTop (mkF m 27 #[.val (.ref a1), .val (.int q)] [(.int p5), (.double (FP.dmul (FP.i2d (p4 - p5)) (FP.i2d q))), (.double (FP.i2d (p2 - p3)))]))
  refine OwnEnds.st (fun t k => XS.iconst X5.here hx rfl (hb hby d4_27) k) ?_
  show OwnEnds _ _ _ _ _ _ _ (T5.setTop (mkF m 28 #[.val (.ref a1), .val (.int q)] [(.int (1 : Int32)), (.int p5), (.double (FP.dmul (FP.i2d (p4 - p5)) (FP.i2d q))), (.double (FP.i2d (p2 - p3)))]))
  refine OwnEnds.st (fun t k => XS.iadd X5.here hx rfl (hb hby d4_28) rfl k) ?_
  show OwnEnds _ _ _ _ _ _ _ (T5.setTop (mkF m 29 #[.val (.ref a1), .val (.int q)] [(.int (p5 + (1 : Int32))), (.double (FP.dmul (FP.i2d (p4 - p5)) (FP.i2d q))), (.double (FP.i2d (p2 - p3)))]))
  refine OwnEnds.st (fun t k => XS.i2dS X5.here hx rfl (hb hby d4_29) rfl rfl k) ?_
  show OwnEnds _ _ _ _ _ _ _ (T5.setTop (mkF m 30 #[.val (.ref a1), .val (.int q)] [(.double (FP.i2d (p5 + (1 : Int32)))), (.double (FP.dmul (FP.i2d (p4 - p5)) (FP.i2d q))), (.double (FP.i2d (p2 - p3)))]))
  refine OwnEnds.st (fun t k => XS.ddivS X5.here hx rfl (hb hby d4_30) rfl hd rfl k) ?_
  show OwnEnds _ _ _ _ _ _ _ (T5.setTop (mkF m 31 #[.val (.ref a1), .val (.int q)] [(.double (FP.ddiv (FP.dmul (FP.i2d (p4 - p5)) (FP.i2d q)) (FP.i2d (p5 + (1 : Int32))))), (.double (FP.i2d (p2 - p3)))]))
  refine OwnEnds.st (fun t k => XS.daddS X5.here hx rfl (hb hby d4_31) rfl hs rfl k) ?_
  show OwnEnds _ _ _ _ _ _ _ (T5.setTop (mkF m 32 #[.val (.ref a1), .val (.int q)] [(.double (FP.dadd (FP.i2d (p2 - p3)) (FP.ddiv (FP.dmul (FP.i2d (p4 - p5)) (FP.i2d q)) (FP.i2d (p5 + (1 : Int32))))))]))
  refine own_retD X5 hx Bd.returns Bd.notSynchronized (hb hby d4_32) ?_ (by decide) (by decide)
  show Q4 Z a1 q p2 p3 p4 p5 h0 n0 _ T5.heap _
  rw [e5]
  exact ⟨rfl, N0, rfl⟩
theorem ef_0 (m : MethodId) (x0 : Int32) (x1 : Int32) (x2 : Int32) (x3 : Int32) (x4 : Int32) : entryFrame m #[(.int x0), (.int x1), (.int x2), (.int x3), (.int x4)] maxLocals = mkF m 0 #[.val (.int x0), .val (.int x1), .val (.int x2), .val (.int x3), .val (.int x4), .unset, .unset, .unset, .unset, .unset, .unset, .unset, .unset, .unset, .unset, .unset, .unset, .unset, .unset, .unset, .unset, .unset, .unset, .unset, .unset, .unset] [] := by first | (simp [entryFrame, mkF, argsToLocals, Value.category, maxLocals]; done) | rfl
def Q0 (Z : State) (p1 : Int32) (p2 : Int32) (p3 : Int32) (p4 : Int32) (p5 : Int32) (h0 : Heap) (n0 : Nat) (v : Option Value) (h : Heap) (L : List Loc) : Prop := v = some (.int 1) ∧ Fr n0 L
set_option maxRecDepth 65536 in
set_option maxHeartbeats 40000000 in
theorem rm0 (l : Launch) (Z : State) (a0 : Array Value) (hw : ∀ d ∈ tables_1, d.before a0 Z = true) (ws : List Jvm.Cond) (p1 : Int32) (p2 : Int32) (p3 : Int32) (p4 : Int32) (p5 : Int32) (h0 : Heap) (n0 : Nat) (Z0 : n0 ≤ h0.size) :
    MetFree l x (head1 (Jvm.Cond.code x code maxLocals ret :: ws) room_1) (fun ar_ U_ => ar_ = #[(.int p1), (.int p2), (.int p3), (.int p4), (.int p5)] ∧ Z.Warmed39 U_.vm ∧ U_.heap = h0) (fun _ _ _ _ _ => True) (fun _ U_ oc_ Ue_ => ∃ v_ L_, oc_ = .returned v_ ∧ Q0 Z p1 p2 p3 p4 p5 h0 n0 v_ Ue_.heap L_ ∧ FrameEnd U_ oc_ Ue_ L_ room_1.cells room_1.slots) := by
  refine MetFree.of_bodySF (plainFor_of_name pn_2) hisR ?_
  intro p e s m args below meth c s₁ Bd hml0 hP hK
  obtain ⟨rfl, hZ, hh⟩ := hP
  have hx := Bd.exec
  have hby := Bd.bytes
  have hml : c.maxLocals = 26 := hml0
  have hown : s.vm.findClass "com/example/culpa/culpa/TieWastedEffortPinLaw" = some m.cls := findClass_of_methodNamed Bd.named
  have hnm := (name_of_methodNamed Bd.named Bd.method).1
  have X0 : Stand p l e room_1 s m #[(.int p1), (.int p2), (.int p3), (.int p4), (.int p5)] below meth c s₁ [] 0 0 := Stand.of_body Bd
  have e0 : s₁.heap = h0 := by rw [← hh, Bd.state]; rfl
  have N0 := Fr.nil n0
  show OwnEnds p e below s (Q0 Z p1 p2 p3 p4 p5 h0 n0) room_1.cells room_1.slots (s₁.setTop (entryFrame m #[(.int p1), (.int p2), (.int p3), (.int p4), (.int p5)] maxLocals))
  rw [ef_0]
  show OwnEnds _ _ _ _ _ _ _ (s₁.setTop (mkF m 0 #[.val (.int p1), .val (.int p2), .val (.int p3), .val (.int p4), .val (.int p5), .unset, .unset, .unset, .unset, .unset, .unset, .unset, .unset, .unset, .unset, .unset, .unset, .unset, .unset, .unset, .unset, .unset, .unset, .unset, .unset, .unset] []))
  refine OwnEnds.st (fun t k => XS.iconst X0.here hx rfl (hb hby at_0) k) ?_
  show OwnEnds _ _ _ _ _ _ _ (s₁.setTop (mkF m 1 #[.val (.int p1), .val (.int p2), .val (.int p3), .val (.int p4), .val (.int p5), .unset, .unset, .unset, .unset, .unset, .unset, .unset, .unset, .unset, .unset, .unset, .unset, .unset, .unset, .unset, .unset, .unset, .unset, .unset, .unset, .unset] [(.int (1 : Int32))]))
  refine OwnEnds.st (fun t k => XS.iloadN X0.here hx rfl (hb hby at_1) rfl k) ?_
  show OwnEnds _ _ _ _ _ _ _ (s₁.setTop (mkF m 2 #[.val (.int p1), .val (.int p2), .val (.int p3), .val (.int p4), .val (.int p5), .unset, .unset, .unset, .unset, .unset, .unset, .unset, .unset, .unset, .unset, .unset, .unset, .unset, .unset, .unset, .unset, .unset, .unset, .unset, .unset, .unset] [(.int p1), (.int (1 : Int32))]))
  refine OwnEnds.st (fun t k => XS.sipush X0.here hx rfl (hb hby at_2) k) ?_
  show OwnEnds _ _ _ _ _ _ _ (s₁.setTop (mkF m 5 #[.val (.int p1), .val (.int p2), .val (.int p3), .val (.int p4), .val (.int p5), .unset, .unset, .unset, .unset, .unset, .unset, .unset, .unset, .unset, .unset, .unset, .unset, .unset, .unset, .unset, .unset, .unset, .unset, .unset, .unset, .unset] [(.int (32767 : Int32)), (.int p1), (.int (1 : Int32))]))
  refine OwnEnds.st (fun t k => XS.iand X0.here hx rfl (hb hby at_5) rfl k) ?_
  show OwnEnds _ _ _ _ _ _ _ (s₁.setTop (mkF m 6 #[.val (.int p1), .val (.int p2), .val (.int p3), .val (.int p4), .val (.int p5), .unset, .unset, .unset, .unset, .unset, .unset, .unset, .unset, .unset, .unset, .unset, .unset, .unset, .unset, .unset, .unset, .unset, .unset, .unset, .unset, .unset] [(.int (p1 &&& (32767 : Int32))), (.int (1 : Int32))]))
  refine OwnEnds.st (fun t k => XS.iadd X0.here hx rfl (hb hby at_6) rfl k) ?_
  show OwnEnds _ _ _ _ _ _ _ (s₁.setTop (mkF m 7 #[.val (.int p1), .val (.int p2), .val (.int p3), .val (.int p4), .val (.int p5), .unset, .unset, .unset, .unset, .unset, .unset, .unset, .unset, .unset, .unset, .unset, .unset, .unset, .unset, .unset, .unset, .unset, .unset, .unset, .unset, .unset] [(.int ((1 : Int32) + (p1 &&& (32767 : Int32))))]))
  refine OwnEnds.st (fun t k => XS.istore X0.here hx rfl (hb hby at_7) rfl (l' := #[.val (.int p1), .val (.int p2), .val (.int p3), .val (.int p4), .val (.int p5), .val (.int ((1 : Int32) + (p1 &&& (32767 : Int32)))), .unset, .unset, .unset, .unset, .unset, .unset, .unset, .unset, .unset, .unset, .unset, .unset, .unset, .unset, .unset, .unset, .unset, .unset, .unset, .unset]) rfl k) ?_
  show OwnEnds _ _ _ _ _ _ _ (s₁.setTop (mkF m 9 #[.val (.int p1), .val (.int p2), .val (.int p3), .val (.int p4), .val (.int p5), .val (.int ((1 : Int32) + (p1 &&& (32767 : Int32)))), .unset, .unset, .unset, .unset, .unset, .unset, .unset, .unset, .unset, .unset, .unset, .unset, .unset, .unset, .unset, .unset, .unset, .unset, .unset, .unset] []))
  refine OwnEnds.st (fun t k => XS.iloadN X0.here hx rfl (hb hby at_9) rfl k) ?_
  show OwnEnds _ _ _ _ _ _ _ (s₁.setTop (mkF m 10 #[.val (.int p1), .val (.int p2), .val (.int p3), .val (.int p4), .val (.int p5), .val (.int ((1 : Int32) + (p1 &&& (32767 : Int32)))), .unset, .unset, .unset, .unset, .unset, .unset, .unset, .unset, .unset, .unset, .unset, .unset, .unset, .unset, .unset, .unset, .unset, .unset, .unset, .unset] [(.int p2)]))
  refine OwnEnds.st (fun t k => XS.sipush X0.here hx rfl (hb hby at_10) k) ?_
  show OwnEnds _ _ _ _ _ _ _ (s₁.setTop (mkF m 13 #[.val (.int p1), .val (.int p2), .val (.int p3), .val (.int p4), .val (.int p5), .val (.int ((1 : Int32) + (p1 &&& (32767 : Int32)))), .unset, .unset, .unset, .unset, .unset, .unset, .unset, .unset, .unset, .unset, .unset, .unset, .unset, .unset, .unset, .unset, .unset, .unset, .unset, .unset] [(.int (32767 : Int32)), (.int p2)]))
  refine OwnEnds.st (fun t k => XS.iand X0.here hx rfl (hb hby at_13) rfl k) ?_
  show OwnEnds _ _ _ _ _ _ _ (s₁.setTop (mkF m 14 #[.val (.int p1), .val (.int p2), .val (.int p3), .val (.int p4), .val (.int p5), .val (.int ((1 : Int32) + (p1 &&& (32767 : Int32)))), .unset, .unset, .unset, .unset, .unset, .unset, .unset, .unset, .unset, .unset, .unset, .unset, .unset, .unset, .unset, .unset, .unset, .unset, .unset, .unset] [(.int (p2 &&& (32767 : Int32)))]))
  refine OwnEnds.st (fun t k => XS.istore X0.here hx rfl (hb hby at_14) rfl (l' := #[.val (.int p1), .val (.int p2), .val (.int p3), .val (.int p4), .val (.int p5), .val (.int ((1 : Int32) + (p1 &&& (32767 : Int32)))), .val (.int (p2 &&& (32767 : Int32))), .unset, .unset, .unset, .unset, .unset, .unset, .unset, .unset, .unset, .unset, .unset, .unset, .unset, .unset, .unset, .unset, .unset, .unset, .unset]) rfl k) ?_
  show OwnEnds _ _ _ _ _ _ _ (s₁.setTop (mkF m 16 #[.val (.int p1), .val (.int p2), .val (.int p3), .val (.int p4), .val (.int p5), .val (.int ((1 : Int32) + (p1 &&& (32767 : Int32)))), .val (.int (p2 &&& (32767 : Int32))), .unset, .unset, .unset, .unset, .unset, .unset, .unset, .unset, .unset, .unset, .unset, .unset, .unset, .unset, .unset, .unset, .unset, .unset, .unset] []))
  obtain ⟨f, e_f⟩ : ∃ z, z = ((1 : Int32) + (p1 &&& (32767 : Int32))) := ⟨_, rfl⟩
  rw [← e_f]
  obtain ⟨xt, e_xt⟩ : ∃ z, z = (p2 &&& (32767 : Int32)) := ⟨_, rfl⟩
  rw [← e_xt]
  refine OwnEnds.st (fun t k => XS.iload X0.here hx rfl (hb hby at_16) rfl k) ?_
  show OwnEnds _ _ _ _ _ _ _ (s₁.setTop (mkF m 18 #[.val (.int p1), .val (.int p2), .val (.int p3), .val (.int p4), .val (.int p5), .val (.int f), .val (.int xt), .unset, .unset, .unset, .unset, .unset, .unset, .unset, .unset, .unset, .unset, .unset, .unset, .unset, .unset, .unset, .unset, .unset, .unset, .unset] [(.int f)]))
  refine OwnEnds.st (fun t k => XS.iload X0.here hx rfl (hb hby at_18) rfl k) ?_
  show OwnEnds _ _ _ _ _ _ _ (s₁.setTop (mkF m 20 #[.val (.int p1), .val (.int p2), .val (.int p3), .val (.int p4), .val (.int p5), .val (.int f), .val (.int xt), .unset, .unset, .unset, .unset, .unset, .unset, .unset, .unset, .unset, .unset, .unset, .unset, .unset, .unset, .unset, .unset, .unset, .unset, .unset] [(.int xt), (.int f)]))
  refine OwnEnds.st (fun t k => XS.iadd X0.here hx rfl (hb hby at_20) rfl k) ?_
  show OwnEnds _ _ _ _ _ _ _ (s₁.setTop (mkF m 21 #[.val (.int p1), .val (.int p2), .val (.int p3), .val (.int p4), .val (.int p5), .val (.int f), .val (.int xt), .unset, .unset, .unset, .unset, .unset, .unset, .unset, .unset, .unset, .unset, .unset, .unset, .unset, .unset, .unset, .unset, .unset, .unset, .unset] [(.int (f + xt))]))
  refine OwnEnds.st (fun t k => XS.istore X0.here hx rfl (hb hby at_21) rfl (l' := #[.val (.int p1), .val (.int p2), .val (.int p3), .val (.int p4), .val (.int p5), .val (.int f), .val (.int xt), .val (.int (f + xt)), .unset, .unset, .unset, .unset, .unset, .unset, .unset, .unset, .unset, .unset, .unset, .unset, .unset, .unset, .unset, .unset, .unset, .unset]) rfl k) ?_
  show OwnEnds _ _ _ _ _ _ _ (s₁.setTop (mkF m 23 #[.val (.int p1), .val (.int p2), .val (.int p3), .val (.int p4), .val (.int p5), .val (.int f), .val (.int xt), .val (.int (f + xt)), .unset, .unset, .unset, .unset, .unset, .unset, .unset, .unset, .unset, .unset, .unset, .unset, .unset, .unset, .unset, .unset, .unset, .unset] []))
  obtain ⟨sz, e_sz⟩ : ∃ z, z = (f + xt) := ⟨_, rfl⟩
  rw [← e_sz]
  refine OwnEnds.st (fun t k => XS.iconst X0.here hx rfl (hb hby at_23) k) ?_
  show OwnEnds _ _ _ _ _ _ _ (s₁.setTop (mkF m 24 #[.val (.int p1), .val (.int p2), .val (.int p3), .val (.int p4), .val (.int p5), .val (.int f), .val (.int xt), .val (.int sz), .unset, .unset, .unset, .unset, .unset, .unset, .unset, .unset, .unset, .unset, .unset, .unset, .unset, .unset, .unset, .unset, .unset, .unset] [(.int (1 : Int32))]))
  refine OwnEnds.st (fun t k => XS.iloadN X0.here hx rfl (hb hby at_24) rfl k) ?_
  show OwnEnds _ _ _ _ _ _ _ (s₁.setTop (mkF m 25 #[.val (.int p1), .val (.int p2), .val (.int p3), .val (.int p4), .val (.int p5), .val (.int f), .val (.int xt), .val (.int sz), .unset, .unset, .unset, .unset, .unset, .unset, .unset, .unset, .unset, .unset, .unset, .unset, .unset, .unset, .unset, .unset, .unset, .unset] [(.int p3), (.int (1 : Int32))]))
  refine OwnEnds.st (fun t k => X0.ldcInt hx hown (mvT hZ (hw _ (List.mem_of_getElem? (i := 0) rfl))) (g := (mkF m 25 #[.val (.int p1), .val (.int p2), .val (.int p3), .val (.int p4), .val (.int p5), .val (.int f), .val (.int xt), .val (.int sz), .unset, .unset, .unset, .unset, .unset, .unset, .unset, .unset, .unset, .unset, .unset, .unset, .unset, .unset, .unset, .unset, .unset, .unset] [(.int p3), (.int (1 : Int32))])) rfl (hb hby at_25) t k) ?_
  show OwnEnds _ _ _ _ _ _ _ (s₁.setTop (mkF m 27 #[.val (.int p1), .val (.int p2), .val (.int p3), .val (.int p4), .val (.int p5), .val (.int f), .val (.int xt), .val (.int sz), .unset, .unset, .unset, .unset, .unset, .unset, .unset, .unset, .unset, .unset, .unset, .unset, .unset, .unset, .unset, .unset, .unset, .unset] [(.int (2147483647 : Int32)), (.int p3), (.int (1 : Int32))]))
  refine OwnEnds.st (fun t k => XS.iand X0.here hx rfl (hb hby at_27) rfl k) ?_
  show OwnEnds _ _ _ _ _ _ _ (s₁.setTop (mkF m 28 #[.val (.int p1), .val (.int p2), .val (.int p3), .val (.int p4), .val (.int p5), .val (.int f), .val (.int xt), .val (.int sz), .unset, .unset, .unset, .unset, .unset, .unset, .unset, .unset, .unset, .unset, .unset, .unset, .unset, .unset, .unset, .unset, .unset, .unset] [(.int (p3 &&& (2147483647 : Int32))), (.int (1 : Int32))]))
  refine OwnEnds.st (fun t k => XS.iload X0.here hx rfl (hb hby at_28) rfl k) ?_
  show OwnEnds _ _ _ _ _ _ _ (s₁.setTop (mkF m 30 #[.val (.int p1), .val (.int p2), .val (.int p3), .val (.int p4), .val (.int p5), .val (.int f), .val (.int xt), .val (.int sz), .unset, .unset, .unset, .unset, .unset, .unset, .unset, .unset, .unset, .unset, .unset, .unset, .unset, .unset, .unset, .unset, .unset, .unset] [(.int f), (.int (p3 &&& (2147483647 : Int32))), (.int (1 : Int32))]))
  refine OwnEnds.st (fun t k => iremM X0 hx rfl (hb hby at_30) rfl (own_nzf e_f).1 k) ?_
  show OwnEnds _ _ _ _ _ _ _ (s₁.setTop (mkF m 31 #[.val (.int p1), .val (.int p2), .val (.int p3), .val (.int p4), .val (.int p5), .val (.int f), .val (.int xt), .val (.int sz), .unset, .unset, .unset, .unset, .unset, .unset, .unset, .unset, .unset, .unset, .unset, .unset, .unset, .unset, .unset, .unset, .unset, .unset] [(.int ((p3 &&& (2147483647 : Int32)) % f)), (.int (1 : Int32))]))
  refine OwnEnds.st (fun t k => XS.iadd X0.here hx rfl (hb hby at_31) rfl k) ?_
  show OwnEnds _ _ _ _ _ _ _ (s₁.setTop (mkF m 32 #[.val (.int p1), .val (.int p2), .val (.int p3), .val (.int p4), .val (.int p5), .val (.int f), .val (.int xt), .val (.int sz), .unset, .unset, .unset, .unset, .unset, .unset, .unset, .unset, .unset, .unset, .unset, .unset, .unset, .unset, .unset, .unset, .unset, .unset] [(.int ((1 : Int32) + ((p3 &&& (2147483647 : Int32)) % f)))]))
  refine OwnEnds.st (fun t k => XS.istore X0.here hx rfl (hb hby at_32) rfl (l' := #[.val (.int p1), .val (.int p2), .val (.int p3), .val (.int p4), .val (.int p5), .val (.int f), .val (.int xt), .val (.int sz), .val (.int ((1 : Int32) + ((p3 &&& (2147483647 : Int32)) % f))), .unset, .unset, .unset, .unset, .unset, .unset, .unset, .unset, .unset, .unset, .unset, .unset, .unset, .unset, .unset, .unset, .unset]) rfl k) ?_
  show OwnEnds _ _ _ _ _ _ _ (s₁.setTop (mkF m 34 #[.val (.int p1), .val (.int p2), .val (.int p3), .val (.int p4), .val (.int p5), .val (.int f), .val (.int xt), .val (.int sz), .val (.int ((1 : Int32) + ((p3 &&& (2147483647 : Int32)) % f))), .unset, .unset, .unset, .unset, .unset, .unset, .unset, .unset, .unset, .unset, .unset, .unset, .unset, .unset, .unset, .unset, .unset] []))
  obtain ⟨q, e_q⟩ : ∃ z, z = ((1 : Int32) + ((p3 &&& (2147483647 : Int32)) % f)) := ⟨_, rfl⟩
  rw [← e_q]
  refine OwnEnds.st (fun t k => XS.iloadN X0.here hx rfl (hb hby at_34) rfl k) ?_
  show OwnEnds _ _ _ _ _ _ _ (s₁.setTop (mkF m 35 #[.val (.int p1), .val (.int p2), .val (.int p3), .val (.int p4), .val (.int p5), .val (.int f), .val (.int xt), .val (.int sz), .val (.int q), .unset, .unset, .unset, .unset, .unset, .unset, .unset, .unset, .unset, .unset, .unset, .unset, .unset, .unset, .unset, .unset, .unset] [(.int p4)]))
  refine OwnEnds.st (fun t k => X0.ldcInt hx hown (mvT hZ (hw _ (List.mem_of_getElem? (i := 1) rfl))) (g := (mkF m 35 #[.val (.int p1), .val (.int p2), .val (.int p3), .val (.int p4), .val (.int p5), .val (.int f), .val (.int xt), .val (.int sz), .val (.int q), .unset, .unset, .unset, .unset, .unset, .unset, .unset, .unset, .unset, .unset, .unset, .unset, .unset, .unset, .unset, .unset, .unset] [(.int p4)])) rfl (hb hby at_35) t k) ?_
  show OwnEnds _ _ _ _ _ _ _ (s₁.setTop (mkF m 37 #[.val (.int p1), .val (.int p2), .val (.int p3), .val (.int p4), .val (.int p5), .val (.int f), .val (.int xt), .val (.int sz), .val (.int q), .unset, .unset, .unset, .unset, .unset, .unset, .unset, .unset, .unset, .unset, .unset, .unset, .unset, .unset, .unset, .unset, .unset] [(.int (65535 : Int32)), (.int p4)]))
  refine OwnEnds.st (fun t k => XS.iand X0.here hx rfl (hb hby at_37) rfl k) ?_
  show OwnEnds _ _ _ _ _ _ _ (s₁.setTop (mkF m 38 #[.val (.int p1), .val (.int p2), .val (.int p3), .val (.int p4), .val (.int p5), .val (.int f), .val (.int xt), .val (.int sz), .val (.int q), .unset, .unset, .unset, .unset, .unset, .unset, .unset, .unset, .unset, .unset, .unset, .unset, .unset, .unset, .unset, .unset, .unset] [(.int (p4 &&& (65535 : Int32)))]))
  refine OwnEnds.st (fun t k => XS.istore X0.here hx rfl (hb hby at_38) rfl (l' := #[.val (.int p1), .val (.int p2), .val (.int p3), .val (.int p4), .val (.int p5), .val (.int f), .val (.int xt), .val (.int sz), .val (.int q), .val (.int (p4 &&& (65535 : Int32))), .unset, .unset, .unset, .unset, .unset, .unset, .unset, .unset, .unset, .unset, .unset, .unset, .unset, .unset, .unset, .unset]) rfl k) ?_
  show OwnEnds _ _ _ _ _ _ _ (s₁.setTop (mkF m 40 #[.val (.int p1), .val (.int p2), .val (.int p3), .val (.int p4), .val (.int p5), .val (.int f), .val (.int xt), .val (.int sz), .val (.int q), .val (.int (p4 &&& (65535 : Int32))), .unset, .unset, .unset, .unset, .unset, .unset, .unset, .unset, .unset, .unset, .unset, .unset, .unset, .unset, .unset, .unset] []))
  refine OwnEnds.st (fun t k => XS.iload X0.here hx rfl (hb hby at_40) rfl k) ?_
  show OwnEnds _ _ _ _ _ _ _ (s₁.setTop (mkF m 42 #[.val (.int p1), .val (.int p2), .val (.int p3), .val (.int p4), .val (.int p5), .val (.int f), .val (.int xt), .val (.int sz), .val (.int q), .val (.int (p4 &&& (65535 : Int32))), .unset, .unset, .unset, .unset, .unset, .unset, .unset, .unset, .unset, .unset, .unset, .unset, .unset, .unset, .unset, .unset] [(.int p5)]))
  refine OwnEnds.st (fun t k => X0.ldcInt hx hown (mvT hZ (hw _ (List.mem_of_getElem? (i := 1) rfl))) (g := (mkF m 42 #[.val (.int p1), .val (.int p2), .val (.int p3), .val (.int p4), .val (.int p5), .val (.int f), .val (.int xt), .val (.int sz), .val (.int q), .val (.int (p4 &&& (65535 : Int32))), .unset, .unset, .unset, .unset, .unset, .unset, .unset, .unset, .unset, .unset, .unset, .unset, .unset, .unset, .unset, .unset] [(.int p5)])) rfl (hb hby at_42) t k) ?_
  show OwnEnds _ _ _ _ _ _ _ (s₁.setTop (mkF m 44 #[.val (.int p1), .val (.int p2), .val (.int p3), .val (.int p4), .val (.int p5), .val (.int f), .val (.int xt), .val (.int sz), .val (.int q), .val (.int (p4 &&& (65535 : Int32))), .unset, .unset, .unset, .unset, .unset, .unset, .unset, .unset, .unset, .unset, .unset, .unset, .unset, .unset, .unset, .unset] [(.int (65535 : Int32)), (.int p5)]))
  refine OwnEnds.st (fun t k => XS.iand X0.here hx rfl (hb hby at_44) rfl k) ?_
  show OwnEnds _ _ _ _ _ _ _ (s₁.setTop (mkF m 45 #[.val (.int p1), .val (.int p2), .val (.int p3), .val (.int p4), .val (.int p5), .val (.int f), .val (.int xt), .val (.int sz), .val (.int q), .val (.int (p4 &&& (65535 : Int32))), .unset, .unset, .unset, .unset, .unset, .unset, .unset, .unset, .unset, .unset, .unset, .unset, .unset, .unset, .unset, .unset] [(.int (p5 &&& (65535 : Int32)))]))
  refine OwnEnds.st (fun t k => XS.istore X0.here hx rfl (hb hby at_45) rfl (l' := #[.val (.int p1), .val (.int p2), .val (.int p3), .val (.int p4), .val (.int p5), .val (.int f), .val (.int xt), .val (.int sz), .val (.int q), .val (.int (p4 &&& (65535 : Int32))), .val (.int (p5 &&& (65535 : Int32))), .unset, .unset, .unset, .unset, .unset, .unset, .unset, .unset, .unset, .unset, .unset, .unset, .unset, .unset, .unset]) rfl k) ?_
  show OwnEnds _ _ _ _ _ _ _ (s₁.setTop (mkF m 47 #[.val (.int p1), .val (.int p2), .val (.int p3), .val (.int p4), .val (.int p5), .val (.int f), .val (.int xt), .val (.int sz), .val (.int q), .val (.int (p4 &&& (65535 : Int32))), .val (.int (p5 &&& (65535 : Int32))), .unset, .unset, .unset, .unset, .unset, .unset, .unset, .unset, .unset, .unset, .unset, .unset, .unset, .unset, .unset] []))
  obtain ⟨hf, e_hf⟩ : ∃ z, z = (p4 &&& (65535 : Int32)) := ⟨_, rfl⟩
  rw [← e_hf]
  obtain ⟨ab, e_ab⟩ : ∃ z, z = (p5 &&& (65535 : Int32)) := ⟨_, rfl⟩
  rw [← e_ab]
  refine OwnEnds.st (fun t k => XS.iload X0.here hx rfl (hb hby at_47) rfl k) ?_
  show OwnEnds _ _ _ _ _ _ _ (s₁.setTop (mkF m 49 #[.val (.int p1), .val (.int p2), .val (.int p3), .val (.int p4), .val (.int p5), .val (.int f), .val (.int xt), .val (.int sz), .val (.int q), .val (.int hf), .val (.int ab), .unset, .unset, .unset, .unset, .unset, .unset, .unset, .unset, .unset, .unset, .unset, .unset, .unset, .unset, .unset] [(.int hf)]))
  refine OwnEnds.st (fun t k => XS.iload X0.here hx rfl (hb hby at_49) rfl k) ?_
  show OwnEnds _ _ _ _ _ _ _ (s₁.setTop (mkF m 51 #[.val (.int p1), .val (.int p2), .val (.int p3), .val (.int p4), .val (.int p5), .val (.int f), .val (.int xt), .val (.int sz), .val (.int q), .val (.int hf), .val (.int ab), .unset, .unset, .unset, .unset, .unset, .unset, .unset, .unset, .unset, .unset, .unset, .unset, .unset, .unset, .unset] [(.int ab), (.int hf)]))
  refine OwnEnds.st (fun t k => XS.iadd X0.here hx rfl (hb hby at_51) rfl k) ?_
  show OwnEnds _ _ _ _ _ _ _ (s₁.setTop (mkF m 52 #[.val (.int p1), .val (.int p2), .val (.int p3), .val (.int p4), .val (.int p5), .val (.int f), .val (.int xt), .val (.int sz), .val (.int q), .val (.int hf), .val (.int ab), .unset, .unset, .unset, .unset, .unset, .unset, .unset, .unset, .unset, .unset, .unset, .unset, .unset, .unset, .unset] [(.int (hf + ab))]))
  refine OwnEnds.st (fun t k => XS.istore X0.here hx rfl (hb hby at_52) rfl (l' := #[.val (.int p1), .val (.int p2), .val (.int p3), .val (.int p4), .val (.int p5), .val (.int f), .val (.int xt), .val (.int sz), .val (.int q), .val (.int hf), .val (.int ab), .val (.int (hf + ab)), .unset, .unset, .unset, .unset, .unset, .unset, .unset, .unset, .unset, .unset, .unset, .unset, .unset, .unset]) rfl k) ?_
  show OwnEnds _ _ _ _ _ _ _ (s₁.setTop (mkF m 54 #[.val (.int p1), .val (.int p2), .val (.int p3), .val (.int p4), .val (.int p5), .val (.int f), .val (.int xt), .val (.int sz), .val (.int q), .val (.int hf), .val (.int ab), .val (.int (hf + ab)), .unset, .unset, .unset, .unset, .unset, .unset, .unset, .unset, .unset, .unset, .unset, .unset, .unset, .unset] []))
  obtain ⟨hh, e_hh⟩ : ∃ z, z = (hf + ab) := ⟨_, rfl⟩
  rw [← e_hh]
  obtain ⟨rx, rf, rq, rab⟩ := own_rng (hf := hf) (p4 := p4) e_f e_xt e_q e_ab
  obtain ⟨w1, w2, w3, w4, w5, w6, w7⟩ := own_wst rx rf rq rab
  have hA : hh - hf = ab := by rw [e_hh]; exact own_cancel _ _
  have hE : sz - f = xt := by rw [e_sz]; exact own_cancel _ _
  obtain ⟨T1, h1, X1, e1, E1, A1, D1, -, st1⟩ := newO X0 hx hZ hown (hw _ (List.mem_of_getElem? (i := 2) rfl)) (hw _ (List.mem_of_getElem? (i := 3) rfl)) (hw _ (List.mem_of_getElem? (i := 4) rfl)) e0 (g := (mkF m 54 #[.val (.int p1), .val (.int p2), .val (.int p3), .val (.int p4), .val (.int p5), .val (.int f), .val (.int xt), .val (.int sz), .val (.int q), .val (.int hf), .val (.int ab), .val (.int hh), .unset, .unset, .unset, .unset, .unset, .unset, .unset, .unset, .unset, .unset, .unset, .unset, .unset, .unset] [])) rfl (hb hby at_54) (by decide) (by decide)
  obtain ⟨b1, g1⟩ : ∃ z, z = h0.size := ⟨_, rfl⟩
  rw [← g1] at A1 D1 st1
  refine OwnEnds.st st1 ?_
  show OwnEnds _ _ _ _ _ _ _ (T1.setTop (mkF m 57 #[.val (.int p1), .val (.int p2), .val (.int p3), .val (.int p4), .val (.int p5), .val (.int f), .val (.int xt), .val (.int sz), .val (.int q), .val (.int hf), .val (.int ab), .val (.int hh), .unset, .unset, .unset, .unset, .unset, .unset, .unset, .unset, .unset, .unset, .unset, .unset, .unset, .unset] [(.ref b1)]))
  refine OwnEnds.st (fun t k => XS.dup X1.here hx rfl (hb hby at_57) rfl rfl k) ?_
  show OwnEnds _ _ _ _ _ _ _ (T1.setTop (mkF m 58 #[.val (.int p1), .val (.int p2), .val (.int p3), .val (.int p4), .val (.int p5), .val (.int f), .val (.int xt), .val (.int sz), .val (.int q), .val (.int hf), .val (.int ab), .val (.int hh), .unset, .unset, .unset, .unset, .unset, .unset, .unset, .unset, .unset, .unset, .unset, .unset, .unset, .unset] [(.ref b1), (.ref b1)]))
  refine OwnEnds.st (fun t k => XS.iload X1.here hx rfl (hb hby at_58) rfl k) ?_
  show OwnEnds _ _ _ _ _ _ _ (T1.setTop (mkF m 60 #[.val (.int p1), .val (.int p2), .val (.int p3), .val (.int p4), .val (.int p5), .val (.int f), .val (.int xt), .val (.int sz), .val (.int q), .val (.int hf), .val (.int ab), .val (.int hh), .unset, .unset, .unset, .unset, .unset, .unset, .unset, .unset, .unset, .unset, .unset, .unset, .unset, .unset] [(.int hh), (.ref b1), (.ref b1)]))
  refine OwnEnds.st (fun t k => XS.iload X1.here hx rfl (hb hby at_60) rfl k) ?_
  show OwnEnds _ _ _ _ _ _ _ (T1.setTop (mkF m 62 #[.val (.int p1), .val (.int p2), .val (.int p3), .val (.int p4), .val (.int p5), .val (.int f), .val (.int xt), .val (.int sz), .val (.int q), .val (.int hf), .val (.int ab), .val (.int hh), .unset, .unset, .unset, .unset, .unset, .unset, .unset, .unset, .unset, .unset, .unset, .unset, .unset, .unset] [(.int hf), (.int hh), (.ref b1), (.ref b1)]))
  refine OwnEnds.st (fun t k => XS.iload X1.here hx rfl (hb hby at_62) rfl k) ?_
  show OwnEnds _ _ _ _ _ _ _ (T1.setTop (mkF m 64 #[.val (.int p1), .val (.int p2), .val (.int p3), .val (.int p4), .val (.int p5), .val (.int f), .val (.int xt), .val (.int sz), .val (.int q), .val (.int hf), .val (.int ab), .val (.int hh), .unset, .unset, .unset, .unset, .unset, .unset, .unset, .unset, .unset, .unset, .unset, .unset, .unset, .unset] [(.int sz), (.int hf), (.int hh), (.ref b1), (.ref b1)]))
  refine OwnEnds.st (fun t k => XS.iload X1.here hx rfl (hb hby at_64) rfl k) ?_
  show OwnEnds _ _ _ _ _ _ _ (T1.setTop (mkF m 66 #[.val (.int p1), .val (.int p2), .val (.int p3), .val (.int p4), .val (.int p5), .val (.int f), .val (.int xt), .val (.int sz), .val (.int q), .val (.int hf), .val (.int ab), .val (.int hh), .unset, .unset, .unset, .unset, .unset, .unset, .unset, .unset, .unset, .unset, .unset, .unset, .unset, .unset] [(.int f), (.int sz), (.int hf), (.int hh), (.ref b1), (.ref b1)]))
  have F_higher : Fld Z h1 b1 "com/example/culpa/culpa/FaultPlacement$Tie" "higher" "I" (.int (0 : Int32)) := D1 (Or.inr (hw _ (List.mem_of_getElem? (i := 17) rfl))) (ty := .int) (by decide)
  have F_higherFaulty : Fld Z h1 b1 "com/example/culpa/culpa/FaultPlacement$Tie" "higherFaulty" "I" (.int (0 : Int32)) := D1 (Or.inr (hw _ (List.mem_of_getElem? (i := 19) rfl))) (ty := .int) (by decide)
  have F_size : Fld Z h1 b1 "com/example/culpa/culpa/FaultPlacement$Tie" "size" "I" (.int (0 : Int32)) := D1 (Or.inr (hw _ (List.mem_of_getElem? (i := 21) rfl))) (ty := .int) (by decide)
  have F_faulty : Fld Z h1 b1 "com/example/culpa/culpa/FaultPlacement$Tie" "faulty" "I" (.int (0 : Int32)) := D1 (Or.inr (hw _ (List.mem_of_getElem? (i := 23) rfl))) (ty := .int) (by decide)
  have gb : n0 ≤ b1 := Nat.le_trans Z0 (Nat.le_of_eq g1.symm)
  have Zb : n0 ≤ h1.size := Nat.le_trans Z0 E1.1
  obtain ⟨_, _, ⟨T2, L2, k2, n2⟩, -, X2, ⟨Lc2, hQ2, l2, y2, z2⟩, st2⟩ := X1.specialBack hx (y := (⟨"com/example/culpa/culpa/FaultPlacement$Tie", "<init>", "(IIII)V"⟩ : MethodName)) rfl hown (mvT hZ (hw _ (List.mem_of_getElem? (i := 5) rfl))) (mvT hZ (hw _ (List.mem_of_getElem? (i := 6) rfl))) (mvT hZ (hw _ (List.mem_of_getElem? (i := 7) rfl))) (by decide) (backOf (W := 1) (rm1 l Z a0 hw [] b1 hh hf sz f _ _ _ _ h1 n0 Zb A1 gb F_higher F_higherFaulty F_size F_faulty) hZ (hw _ (List.mem_of_getElem? (i := 7) rfl)) (hw _ (List.mem_of_getElem? (i := 4) rfl)) (by decide) (by decide)) (g := (mkF m 66 #[.val (.int p1), .val (.int p2), .val (.int p3), .val (.int p4), .val (.int p5), .val (.int f), .val (.int xt), .val (.int sz), .val (.int q), .val (.int hf), .val (.int ab), .val (.int hh), .unset, .unset, .unset, .unset, .unset, .unset, .unset, .unset, .unset, .unset, .unset, .unset, .unset, .unset] [(.int f), (.int sz), (.int hf), (.int hh), (.ref b1), (.ref b1)])) rfl (by rw [hml]; rfl) (Steps.refl _) (a := b1) (argsL := [(.int hh), (.int hf), (.int sz), (.int f)]) (rest := [(.ref b1)]) (lenOf pd_1 rfl) rfl (by show 2 * 0 + _ ≤ _; exact Nat.le_of_eq rfl) (hb hby at_66) (fun _ _ => ⟨rfl, e1, (by decide : 1 + 0 ≤ _), (by decide : 4 + 0 ≤ _)⟩)
  dsimp only [Pt.U, Pt.locs, Pt.cells, Pt.slots] at X2 l2 y2 z2 st2 hQ2
  subst l2 y2 z2
  obtain ⟨rfl, N2q, K2, E2, Fh2, Ff2, Fs2, Fq2⟩ := hQ2
  have N2 := Fr.app N0 N2q
  refine OwnEnds.go st2 ?_
  show OwnEnds _ _ _ _ _ _ _ (T2.setTop (mkF m 69 #[.val (.int p1), .val (.int p2), .val (.int p3), .val (.int p4), .val (.int p5), .val (.int f), .val (.int xt), .val (.int sz), .val (.int q), .val (.int hf), .val (.int ab), .val (.int hh), .unset, .unset, .unset, .unset, .unset, .unset, .unset, .unset, .unset, .unset, .unset, .unset, .unset, .unset] [(.ref b1)]))
  have Zc : n0 ≤ T2.heap.size := Nat.le_trans Zb K2.1
  refine OwnEnds.st (fun t k => XS.astore X2.here hx rfl (hb hby at_69) rfl rfl (l' := #[.val (.int p1), .val (.int p2), .val (.int p3), .val (.int p4), .val (.int p5), .val (.int f), .val (.int xt), .val (.int sz), .val (.int q), .val (.int hf), .val (.int ab), .val (.int hh), .val (.ref b1), .unset, .unset, .unset, .unset, .unset, .unset, .unset, .unset, .unset, .unset, .unset, .unset, .unset]) rfl k) ?_
  show OwnEnds _ _ _ _ _ _ _ (T2.setTop (mkF m 71 #[.val (.int p1), .val (.int p2), .val (.int p3), .val (.int p4), .val (.int p5), .val (.int f), .val (.int xt), .val (.int sz), .val (.int q), .val (.int hf), .val (.int ab), .val (.int hh), .val (.ref b1), .unset, .unset, .unset, .unset, .unset, .unset, .unset, .unset, .unset, .unset, .unset, .unset, .unset] []))
  refine OwnEnds.st (fun t k => XS.aload X2.here hx rfl (hb hby at_71) rfl rfl k) ?_
  show OwnEnds _ _ _ _ _ _ _ (T2.setTop (mkF m 73 #[.val (.int p1), .val (.int p2), .val (.int p3), .val (.int p4), .val (.int p5), .val (.int f), .val (.int xt), .val (.int sz), .val (.int q), .val (.int hf), .val (.int ab), .val (.int hh), .val (.ref b1), .unset, .unset, .unset, .unset, .unset, .unset, .unset, .unset, .unset, .unset, .unset, .unset, .unset] [(.ref b1)]))
  refine OwnEnds.st (fun t k => XS.iload X2.here hx rfl (hb hby at_73) rfl k) ?_
  show OwnEnds _ _ _ _ _ _ _ (T2.setTop (mkF m 75 #[.val (.int p1), .val (.int p2), .val (.int p3), .val (.int p4), .val (.int p5), .val (.int f), .val (.int xt), .val (.int sz), .val (.int q), .val (.int hf), .val (.int ab), .val (.int hh), .val (.ref b1), .unset, .unset, .unset, .unset, .unset, .unset, .unset, .unset, .unset, .unset, .unset, .unset, .unset] [(.int q), (.ref b1)]))
  obtain ⟨cq3, kq3, q3a, q3b, q3c⟩ := isOf hZ rfl (E2)
  obtain ⟨_, _, ⟨T3, L3, k3, n3⟩, -, X3, ⟨Lc3, hQ3, l3, y3, z3⟩, st3⟩ := X2.virtualBack hx (y := (⟨"com/example/culpa/culpa/FaultPlacement$Tie", "wastedEffort", "(I)D"⟩ : MethodName)) (z := (⟨"com/example/culpa/culpa/FaultPlacement$Tie", "wastedEffort", "(I)D"⟩ : MethodName)) hown (mvT hZ (hw _ (List.mem_of_getElem? (i := 24) rfl))) (mvT hZ (hw _ (List.mem_of_getElem? (i := 25) rfl))) (notFace_of_selects (args := #[]) (mvT hZ (hw _ (List.mem_of_getElem? (i := 27) rfl)))) (mvT hZ (hw _ (List.mem_of_getElem? (i := 27) rfl))) (mvT hZ (hw _ (List.mem_of_getElem? (i := 26) rfl))) (by decide) (backOf (W := 0) (rm4 l Z a0 hw [] b1 q hh hf sz f T2.heap n0 Zc Fh2 Ff2 Fs2 Fq2 (by rw [hE]; exact w1) (by rw [hE]; exact w2) (by rw [hA, hE]; exact w3)) hZ (hw _ (List.mem_of_getElem? (i := 28) rfl)) (hw _ (List.mem_of_getElem? (i := 4) rfl)) (by decide) (by decide)) q3a q3c (g := (mkF m 75 #[.val (.int p1), .val (.int p2), .val (.int p3), .val (.int p4), .val (.int p5), .val (.int f), .val (.int xt), .val (.int sz), .val (.int q), .val (.int hf), .val (.int ab), .val (.int hh), .val (.ref b1), .unset, .unset, .unset, .unset, .unset, .unset, .unset, .unset, .unset, .unset, .unset, .unset, .unset] [(.int q), (.ref b1)])) rfl (by rw [hml]; rfl) (Steps.refl _) (argsL := [(.int q)]) (rest := []) (lenOf pd_2 rfl) rfl (by show 2 * 0 + _ ≤ _; exact Nat.le_of_eq rfl) (hb hby at_75) (fun _ _ => ⟨rfl, rfl, (by decide : 1 + 0 ≤ _), (by decide : 4 + 0 ≤ _)⟩)
  dsimp only [Pt.U, Pt.locs, Pt.cells, Pt.slots] at X3 l3 y3 z3 st3 hQ3
  subst l3 y3 z3
  obtain ⟨rfl, N3q, hw3⟩ := hQ3
  have N3 := Fr.app N2 N3q
  refine OwnEnds.go st3 ?_
  show OwnEnds _ _ _ _ _ _ _ (T3.setTop (mkF m 78 #[.val (.int p1), .val (.int p2), .val (.int p3), .val (.int p4), .val (.int p5), .val (.int f), .val (.int xt), .val (.int sz), .val (.int q), .val (.int hf), .val (.int ab), .val (.int hh), .val (.ref b1), .unset, .unset, .unset, .unset, .unset, .unset, .unset, .unset, .unset, .unset, .unset, .unset, .unset] [(.double (FP.dadd (FP.i2d (hh - hf)) (FP.ddiv (FP.dmul (FP.i2d (sz - f)) (FP.i2d q)) (FP.i2d (f + (1 : Int32))))))]))
  rw [hA, hE]
  show OwnEnds _ _ _ _ _ _ _ (T3.setTop (mkF m 78 #[.val (.int p1), .val (.int p2), .val (.int p3), .val (.int p4), .val (.int p5), .val (.int f), .val (.int xt), .val (.int sz), .val (.int q), .val (.int hf), .val (.int ab), .val (.int hh), .val (.ref b1), .unset, .unset, .unset, .unset, .unset, .unset, .unset, .unset, .unset, .unset, .unset, .unset, .unset] [(.double (own_W ab xt q f))]))
  refine OwnEnds.st (fun t k => XS.dstore X3.here hx rfl (hb hby at_78) rfl (l' := #[.val (.int p1), .val (.int p2), .val (.int p3), .val (.int p4), .val (.int p5), .val (.int f), .val (.int xt), .val (.int sz), .val (.int q), .val (.int hf), .val (.int ab), .val (.int hh), .val (.ref b1), .val (.double (own_W ab xt q f)), .second, .unset, .unset, .unset, .unset, .unset, .unset, .unset, .unset, .unset, .unset, .unset]) rfl k) ?_
  show OwnEnds _ _ _ _ _ _ _ (T3.setTop (mkF m 80 #[.val (.int p1), .val (.int p2), .val (.int p3), .val (.int p4), .val (.int p5), .val (.int f), .val (.int xt), .val (.int sz), .val (.int q), .val (.int hf), .val (.int ab), .val (.int hh), .val (.ref b1), .val (.double (own_W ab xt q f)), .second, .unset, .unset, .unset, .unset, .unset, .unset, .unset, .unset, .unset, .unset, .unset] []))
  refine OwnEnds.st (fun t k => XS.iload X3.here hx rfl (hb hby at_80) rfl k) ?_
  show OwnEnds _ _ _ _ _ _ _ (T3.setTop (mkF m 82 #[.val (.int p1), .val (.int p2), .val (.int p3), .val (.int p4), .val (.int p5), .val (.int f), .val (.int xt), .val (.int sz), .val (.int q), .val (.int hf), .val (.int ab), .val (.int hh), .val (.ref b1), .val (.double (own_W ab xt q f)), .second, .unset, .unset, .unset, .unset, .unset, .unset, .unset, .unset, .unset, .unset, .unset] [(.int xt)]))
  refine OwnEnds.st (fun t k => XS.iload X3.here hx rfl (hb hby at_82) rfl k) ?_
  show OwnEnds _ _ _ _ _ _ _ (T3.setTop (mkF m 84 #[.val (.int p1), .val (.int p2), .val (.int p3), .val (.int p4), .val (.int p5), .val (.int f), .val (.int xt), .val (.int sz), .val (.int q), .val (.int hf), .val (.int ab), .val (.int hh), .val (.ref b1), .val (.double (own_W ab xt q f)), .second, .unset, .unset, .unset, .unset, .unset, .unset, .unset, .unset, .unset, .unset, .unset] [(.int q), (.int xt)]))
  refine OwnEnds.st (fun t k => XS.imul X3.here hx rfl (hb hby at_84) rfl k) ?_
  show OwnEnds _ _ _ _ _ _ _ (T3.setTop (mkF m 85 #[.val (.int p1), .val (.int p2), .val (.int p3), .val (.int p4), .val (.int p5), .val (.int f), .val (.int xt), .val (.int sz), .val (.int q), .val (.int hf), .val (.int ab), .val (.int hh), .val (.ref b1), .val (.double (own_W ab xt q f)), .second, .unset, .unset, .unset, .unset, .unset, .unset, .unset, .unset, .unset, .unset, .unset] [(.int (xt * q))]))
  refine OwnEnds.st (fun t k => XS.istore X3.here hx rfl (hb hby at_85) rfl (l' := #[.val (.int p1), .val (.int p2), .val (.int p3), .val (.int p4), .val (.int p5), .val (.int f), .val (.int xt), .val (.int sz), .val (.int q), .val (.int hf), .val (.int ab), .val (.int hh), .val (.ref b1), .val (.double (own_W ab xt q f)), .second, .val (.int (xt * q)), .unset, .unset, .unset, .unset, .unset, .unset, .unset, .unset, .unset, .unset]) rfl k) ?_
  show OwnEnds _ _ _ _ _ _ _ (T3.setTop (mkF m 87 #[.val (.int p1), .val (.int p2), .val (.int p3), .val (.int p4), .val (.int p5), .val (.int f), .val (.int xt), .val (.int sz), .val (.int q), .val (.int hf), .val (.int ab), .val (.int hh), .val (.ref b1), .val (.double (own_W ab xt q f)), .second, .val (.int (xt * q)), .unset, .unset, .unset, .unset, .unset, .unset, .unset, .unset, .unset, .unset] []))
  refine OwnEnds.st (fun t k => XS.iload X3.here hx rfl (hb hby at_87) rfl k) ?_
  show OwnEnds _ _ _ _ _ _ _ (T3.setTop (mkF m 89 #[.val (.int p1), .val (.int p2), .val (.int p3), .val (.int p4), .val (.int p5), .val (.int f), .val (.int xt), .val (.int sz), .val (.int q), .val (.int hf), .val (.int ab), .val (.int hh), .val (.ref b1), .val (.double (own_W ab xt q f)), .second, .val (.int (xt * q)), .unset, .unset, .unset, .unset, .unset, .unset, .unset, .unset, .unset, .unset] [(.int f)]))
  refine OwnEnds.st (fun t k => XS.iconst X3.here hx rfl (hb hby at_89) k) ?_
  show OwnEnds _ _ _ _ _ _ _ (T3.setTop (mkF m 90 #[.val (.int p1), .val (.int p2), .val (.int p3), .val (.int p4), .val (.int p5), .val (.int f), .val (.int xt), .val (.int sz), .val (.int q), .val (.int hf), .val (.int ab), .val (.int hh), .val (.ref b1), .val (.double (own_W ab xt q f)), .second, .val (.int (xt * q)), .unset, .unset, .unset, .unset, .unset, .unset, .unset, .unset, .unset, .unset] [(.int (1 : Int32)), (.int f)]))
  refine OwnEnds.st (fun t k => XS.iadd X3.here hx rfl (hb hby at_90) rfl k) ?_
  show OwnEnds _ _ _ _ _ _ _ (T3.setTop (mkF m 91 #[.val (.int p1), .val (.int p2), .val (.int p3), .val (.int p4), .val (.int p5), .val (.int f), .val (.int xt), .val (.int sz), .val (.int q), .val (.int hf), .val (.int ab), .val (.int hh), .val (.ref b1), .val (.double (own_W ab xt q f)), .second, .val (.int (xt * q)), .unset, .unset, .unset, .unset, .unset, .unset, .unset, .unset, .unset, .unset] [(.int (f + (1 : Int32)))]))
  refine OwnEnds.st (fun t k => XS.istore X3.here hx rfl (hb hby at_91) rfl (l' := #[.val (.int p1), .val (.int p2), .val (.int p3), .val (.int p4), .val (.int p5), .val (.int f), .val (.int xt), .val (.int sz), .val (.int q), .val (.int hf), .val (.int ab), .val (.int hh), .val (.ref b1), .val (.double (own_W ab xt q f)), .second, .val (.int (xt * q)), .val (.int (f + (1 : Int32))), .unset, .unset, .unset, .unset, .unset, .unset, .unset, .unset, .unset]) rfl k) ?_
  show OwnEnds _ _ _ _ _ _ _ (T3.setTop (mkF m 93 #[.val (.int p1), .val (.int p2), .val (.int p3), .val (.int p4), .val (.int p5), .val (.int f), .val (.int xt), .val (.int sz), .val (.int q), .val (.int hf), .val (.int ab), .val (.int hh), .val (.ref b1), .val (.double (own_W ab xt q f)), .second, .val (.int (xt * q)), .val (.int (f + (1 : Int32))), .unset, .unset, .unset, .unset, .unset, .unset, .unset, .unset, .unset] []))
  refine OwnEnds.st (fun t k => XS.iload X3.here hx rfl (hb hby at_93) rfl k) ?_
  show OwnEnds _ _ _ _ _ _ _ (T3.setTop (mkF m 95 #[.val (.int p1), .val (.int p2), .val (.int p3), .val (.int p4), .val (.int p5), .val (.int f), .val (.int xt), .val (.int sz), .val (.int q), .val (.int hf), .val (.int ab), .val (.int hh), .val (.ref b1), .val (.double (own_W ab xt q f)), .second, .val (.int (xt * q)), .val (.int (f + (1 : Int32))), .unset, .unset, .unset, .unset, .unset, .unset, .unset, .unset, .unset] [(.int ab)]))
  refine OwnEnds.st (fun t k => XS.i2l X3.here hx rfl (hb hby at_95) rfl k) ?_
  show OwnEnds _ _ _ _ _ _ _ (T3.setTop (mkF m 96 #[.val (.int p1), .val (.int p2), .val (.int p3), .val (.int p4), .val (.int p5), .val (.int f), .val (.int xt), .val (.int sz), .val (.int q), .val (.int hf), .val (.int ab), .val (.int hh), .val (.ref b1), .val (.double (own_W ab xt q f)), .second, .val (.int (xt * q)), .val (.int (f + (1 : Int32))), .unset, .unset, .unset, .unset, .unset, .unset, .unset, .unset, .unset] [(.long (ab.toInt64))]))
  refine OwnEnds.st (fun t k => XS.iload X3.here hx rfl (hb hby at_96) rfl k) ?_
  show OwnEnds _ _ _ _ _ _ _ (T3.setTop (mkF m 98 #[.val (.int p1), .val (.int p2), .val (.int p3), .val (.int p4), .val (.int p5), .val (.int f), .val (.int xt), .val (.int sz), .val (.int q), .val (.int hf), .val (.int ab), .val (.int hh), .val (.ref b1), .val (.double (own_W ab xt q f)), .second, .val (.int (xt * q)), .val (.int (f + (1 : Int32))), .unset, .unset, .unset, .unset, .unset, .unset, .unset, .unset, .unset] [(.int (xt * q)), (.long (ab.toInt64))]))
  refine OwnEnds.st (fun t k => XS.iload X3.here hx rfl (hb hby at_98) rfl k) ?_
  show OwnEnds _ _ _ _ _ _ _ (T3.setTop (mkF m 100 #[.val (.int p1), .val (.int p2), .val (.int p3), .val (.int p4), .val (.int p5), .val (.int f), .val (.int xt), .val (.int sz), .val (.int q), .val (.int hf), .val (.int ab), .val (.int hh), .val (.ref b1), .val (.double (own_W ab xt q f)), .second, .val (.int (xt * q)), .val (.int (f + (1 : Int32))), .unset, .unset, .unset, .unset, .unset, .unset, .unset, .unset, .unset] [(.int (f + (1 : Int32))), (.int (xt * q)), (.long (ab.toInt64))]))
  refine OwnEnds.st (fun t k => XS.idiv X3.here hx rfl (hb hby at_100) rfl (own_nzf e_f).2 k) ?_
  show OwnEnds _ _ _ _ _ _ _ (T3.setTop (mkF m 101 #[.val (.int p1), .val (.int p2), .val (.int p3), .val (.int p4), .val (.int p5), .val (.int f), .val (.int xt), .val (.int sz), .val (.int q), .val (.int hf), .val (.int ab), .val (.int hh), .val (.ref b1), .val (.double (own_W ab xt q f)), .second, .val (.int (xt * q)), .val (.int (f + (1 : Int32))), .unset, .unset, .unset, .unset, .unset, .unset, .unset, .unset, .unset] [(.int ((xt * q) / (f + (1 : Int32)))), (.long (ab.toInt64))]))
  refine OwnEnds.st (fun t k => XS.i2l X3.here hx rfl (hb hby at_101) rfl k) ?_
  show OwnEnds _ _ _ _ _ _ _ (T3.setTop (mkF m 102 #[.val (.int p1), .val (.int p2), .val (.int p3), .val (.int p4), .val (.int p5), .val (.int f), .val (.int xt), .val (.int sz), .val (.int q), .val (.int hf), .val (.int ab), .val (.int hh), .val (.ref b1), .val (.double (own_W ab xt q f)), .second, .val (.int (xt * q)), .val (.int (f + (1 : Int32))), .unset, .unset, .unset, .unset, .unset, .unset, .unset, .unset, .unset] [(.long (((xt * q) / (f + (1 : Int32))).toInt64)), (.long (ab.toInt64))]))
  refine OwnEnds.st (fun t k => XS.ladd X3.here hx rfl (hb hby at_102) rfl k) ?_
  show OwnEnds _ _ _ _ _ _ _ (T3.setTop (mkF m 103 #[.val (.int p1), .val (.int p2), .val (.int p3), .val (.int p4), .val (.int p5), .val (.int f), .val (.int xt), .val (.int sz), .val (.int q), .val (.int hf), .val (.int ab), .val (.int hh), .val (.ref b1), .val (.double (own_W ab xt q f)), .second, .val (.int (xt * q)), .val (.int (f + (1 : Int32))), .unset, .unset, .unset, .unset, .unset, .unset, .unset, .unset, .unset] [(.long ((ab.toInt64) + (((xt * q) / (f + (1 : Int32))).toInt64)))]))
  refine OwnEnds.st (fun t k => XS.lstore X3.here hx rfl (hb hby at_103) rfl (l' := #[.val (.int p1), .val (.int p2), .val (.int p3), .val (.int p4), .val (.int p5), .val (.int f), .val (.int xt), .val (.int sz), .val (.int q), .val (.int hf), .val (.int ab), .val (.int hh), .val (.ref b1), .val (.double (own_W ab xt q f)), .second, .val (.int (xt * q)), .val (.int (f + (1 : Int32))), .val (.long ((ab.toInt64) + (((xt * q) / (f + (1 : Int32))).toInt64))), .second, .unset, .unset, .unset, .unset, .unset, .unset, .unset]) rfl k) ?_
  show OwnEnds _ _ _ _ _ _ _ (T3.setTop (mkF m 105 #[.val (.int p1), .val (.int p2), .val (.int p3), .val (.int p4), .val (.int p5), .val (.int f), .val (.int xt), .val (.int sz), .val (.int q), .val (.int hf), .val (.int ab), .val (.int hh), .val (.ref b1), .val (.double (own_W ab xt q f)), .second, .val (.int (xt * q)), .val (.int (f + (1 : Int32))), .val (.long ((ab.toInt64) + (((xt * q) / (f + (1 : Int32))).toInt64))), .second, .unset, .unset, .unset, .unset, .unset, .unset, .unset] []))
  refine OwnEnds.st (fun t k => XS.iload X3.here hx rfl (hb hby at_105) rfl k) ?_
  show OwnEnds _ _ _ _ _ _ _ (T3.setTop (mkF m 107 #[.val (.int p1), .val (.int p2), .val (.int p3), .val (.int p4), .val (.int p5), .val (.int f), .val (.int xt), .val (.int sz), .val (.int q), .val (.int hf), .val (.int ab), .val (.int hh), .val (.ref b1), .val (.double (own_W ab xt q f)), .second, .val (.int (xt * q)), .val (.int (f + (1 : Int32))), .val (.long ((ab.toInt64) + (((xt * q) / (f + (1 : Int32))).toInt64))), .second, .unset, .unset, .unset, .unset, .unset, .unset, .unset] [(.int (xt * q))]))
  refine OwnEnds.st (fun t k => XS.iload X3.here hx rfl (hb hby at_107) rfl k) ?_
  show OwnEnds _ _ _ _ _ _ _ (T3.setTop (mkF m 109 #[.val (.int p1), .val (.int p2), .val (.int p3), .val (.int p4), .val (.int p5), .val (.int f), .val (.int xt), .val (.int sz), .val (.int q), .val (.int hf), .val (.int ab), .val (.int hh), .val (.ref b1), .val (.double (own_W ab xt q f)), .second, .val (.int (xt * q)), .val (.int (f + (1 : Int32))), .val (.long ((ab.toInt64) + (((xt * q) / (f + (1 : Int32))).toInt64))), .second, .unset, .unset, .unset, .unset, .unset, .unset, .unset] [(.int (f + (1 : Int32))), (.int (xt * q))]))
  refine OwnEnds.st (fun t k => iremM X3 hx rfl (hb hby at_109) rfl (own_nzf e_f).2 k) ?_
  show OwnEnds _ _ _ _ _ _ _ (T3.setTop (mkF m 110 #[.val (.int p1), .val (.int p2), .val (.int p3), .val (.int p4), .val (.int p5), .val (.int f), .val (.int xt), .val (.int sz), .val (.int q), .val (.int hf), .val (.int ab), .val (.int hh), .val (.ref b1), .val (.double (own_W ab xt q f)), .second, .val (.int (xt * q)), .val (.int (f + (1 : Int32))), .val (.long ((ab.toInt64) + (((xt * q) / (f + (1 : Int32))).toInt64))), .second, .unset, .unset, .unset, .unset, .unset, .unset, .unset] [(.int ((xt * q) % (f + (1 : Int32))))]))
  refine OwnEnds.st (fun t k => XS.istore X3.here hx rfl (hb hby at_110) rfl (l' := #[.val (.int p1), .val (.int p2), .val (.int p3), .val (.int p4), .val (.int p5), .val (.int f), .val (.int xt), .val (.int sz), .val (.int q), .val (.int hf), .val (.int ab), .val (.int hh), .val (.ref b1), .val (.double (own_W ab xt q f)), .second, .val (.int (xt * q)), .val (.int (f + (1 : Int32))), .val (.long ((ab.toInt64) + (((xt * q) / (f + (1 : Int32))).toInt64))), .second, .val (.int ((xt * q) % (f + (1 : Int32)))), .unset, .unset, .unset, .unset, .unset, .unset]) rfl k) ?_
  show OwnEnds _ _ _ _ _ _ _ (T3.setTop (mkF m 112 #[.val (.int p1), .val (.int p2), .val (.int p3), .val (.int p4), .val (.int p5), .val (.int f), .val (.int xt), .val (.int sz), .val (.int q), .val (.int hf), .val (.int ab), .val (.int hh), .val (.ref b1), .val (.double (own_W ab xt q f)), .second, .val (.int (xt * q)), .val (.int (f + (1 : Int32))), .val (.long ((ab.toInt64) + (((xt * q) / (f + (1 : Int32))).toInt64))), .second, .val (.int ((xt * q) % (f + (1 : Int32)))), .unset, .unset, .unset, .unset, .unset, .unset] []))
  refine OwnEnds.st (fun t k => XS.lload X3.here hx rfl (hb hby at_112) rfl k) ?_
  show OwnEnds _ _ _ _ _ _ _ (T3.setTop (mkF m 114 #[.val (.int p1), .val (.int p2), .val (.int p3), .val (.int p4), .val (.int p5), .val (.int f), .val (.int xt), .val (.int sz), .val (.int q), .val (.int hf), .val (.int ab), .val (.int hh), .val (.ref b1), .val (.double (own_W ab xt q f)), .second, .val (.int (xt * q)), .val (.int (f + (1 : Int32))), .val (.long ((ab.toInt64) + (((xt * q) / (f + (1 : Int32))).toInt64))), .second, .val (.int ((xt * q) % (f + (1 : Int32)))), .unset, .unset, .unset, .unset, .unset, .unset] [(.long ((ab.toInt64) + (((xt * q) / (f + (1 : Int32))).toInt64)))]))
  refine OwnEnds.st (fun t k => XS.l2dS X3.here hx rfl (hb hby at_114) rfl rfl k) ?_
  show OwnEnds _ _ _ _ _ _ _ (T3.setTop (mkF m 115 #[.val (.int p1), .val (.int p2), .val (.int p3), .val (.int p4), .val (.int p5), .val (.int f), .val (.int xt), .val (.int sz), .val (.int q), .val (.int hf), .val (.int ab), .val (.int hh), .val (.ref b1), .val (.double (own_W ab xt q f)), .second, .val (.int (xt * q)), .val (.int (f + (1 : Int32))), .val (.long ((ab.toInt64) + (((xt * q) / (f + (1 : Int32))).toInt64))), .second, .val (.int ((xt * q) % (f + (1 : Int32)))), .unset, .unset, .unset, .unset, .unset, .unset] [(.double (FP.l2d ((ab.toInt64) + (((xt * q) / (f + (1 : Int32))).toInt64))))]))
  refine OwnEnds.st (fun t k => XS.dstore X3.here hx rfl (hb hby at_115) rfl (l' := #[.val (.int p1), .val (.int p2), .val (.int p3), .val (.int p4), .val (.int p5), .val (.int f), .val (.int xt), .val (.int sz), .val (.int q), .val (.int hf), .val (.int ab), .val (.int hh), .val (.ref b1), .val (.double (own_W ab xt q f)), .second, .val (.int (xt * q)), .val (.int (f + (1 : Int32))), .val (.long ((ab.toInt64) + (((xt * q) / (f + (1 : Int32))).toInt64))), .second, .val (.int ((xt * q) % (f + (1 : Int32)))), .val (.double (FP.l2d ((ab.toInt64) + (((xt * q) / (f + (1 : Int32))).toInt64)))), .second, .unset, .unset, .unset, .unset]) rfl k) ?_
  show OwnEnds _ _ _ _ _ _ _ (T3.setTop (mkF m 117 #[.val (.int p1), .val (.int p2), .val (.int p3), .val (.int p4), .val (.int p5), .val (.int f), .val (.int xt), .val (.int sz), .val (.int q), .val (.int hf), .val (.int ab), .val (.int hh), .val (.ref b1), .val (.double (own_W ab xt q f)), .second, .val (.int (xt * q)), .val (.int (f + (1 : Int32))), .val (.long ((ab.toInt64) + (((xt * q) / (f + (1 : Int32))).toInt64))), .second, .val (.int ((xt * q) % (f + (1 : Int32)))), .val (.double (FP.l2d ((ab.toInt64) + (((xt * q) / (f + (1 : Int32))).toInt64)))), .second, .unset, .unset, .unset, .unset] []))
  refine OwnEnds.st (fun t k => XS.iload X3.here hx rfl (hb hby at_117) rfl k) ?_
  show OwnEnds _ _ _ _ _ _ _ (T3.setTop (mkF m 119 #[.val (.int p1), .val (.int p2), .val (.int p3), .val (.int p4), .val (.int p5), .val (.int f), .val (.int xt), .val (.int sz), .val (.int q), .val (.int hf), .val (.int ab), .val (.int hh), .val (.ref b1), .val (.double (own_W ab xt q f)), .second, .val (.int (xt * q)), .val (.int (f + (1 : Int32))), .val (.long ((ab.toInt64) + (((xt * q) / (f + (1 : Int32))).toInt64))), .second, .val (.int ((xt * q) % (f + (1 : Int32)))), .val (.double (FP.l2d ((ab.toInt64) + (((xt * q) / (f + (1 : Int32))).toInt64)))), .second, .unset, .unset, .unset, .unset] [(.int ((xt * q) % (f + (1 : Int32))))]))
  by_cases hr : ((xt * q) % (f + (1 : Int32))) = 0
  · refine OwnEnds.st (fun t k => XS.ifNo X3.here hx rfl (hb hby at_119) rfl ((if0 _ _).trans (teq (hr : ((xt * q) % (f + (1 : Int32))) = (0 : Int32))).2) k) ?_
    show OwnEnds _ _ _ _ _ _ _ (T3.setTop (mkF m 122 #[.val (.int p1), .val (.int p2), .val (.int p3), .val (.int p4), .val (.int p5), .val (.int f), .val (.int xt), .val (.int sz), .val (.int q), .val (.int hf), .val (.int ab), .val (.int hh), .val (.ref b1), .val (.double (own_W ab xt q f)), .second, .val (.int (xt * q)), .val (.int (f + (1 : Int32))), .val (.long ((ab.toInt64) + (((xt * q) / (f + (1 : Int32))).toInt64))), .second, .val (.int ((xt * q) % (f + (1 : Int32)))), .val (.double (FP.l2d ((ab.toInt64) + (((xt * q) / (f + (1 : Int32))).toInt64)))), .second, .unset, .unset, .unset, .unset] []))
    refine OwnEnds.st (fun t k => XS.dload X3.here hx rfl (hb hby at_122) rfl k) ?_
    show OwnEnds _ _ _ _ _ _ _ (T3.setTop (mkF m 124 #[.val (.int p1), .val (.int p2), .val (.int p3), .val (.int p4), .val (.int p5), .val (.int f), .val (.int xt), .val (.int sz), .val (.int q), .val (.int hf), .val (.int ab), .val (.int hh), .val (.ref b1), .val (.double (own_W ab xt q f)), .second, .val (.int (xt * q)), .val (.int (f + (1 : Int32))), .val (.long ((ab.toInt64) + (((xt * q) / (f + (1 : Int32))).toInt64))), .second, .val (.int ((xt * q) % (f + (1 : Int32)))), .val (.double (FP.l2d ((ab.toInt64) + (((xt * q) / (f + (1 : Int32))).toInt64)))), .second, .unset, .unset, .unset, .unset] [(.double (own_W ab xt q f))]))
    refine OwnEnds.st (fun t k => XS.dload X3.here hx rfl (hb hby at_124) rfl k) ?_
    show OwnEnds _ _ _ _ _ _ _ (T3.setTop (mkF m 126 #[.val (.int p1), .val (.int p2), .val (.int p3), .val (.int p4), .val (.int p5), .val (.int f), .val (.int xt), .val (.int sz), .val (.int q), .val (.int hf), .val (.int ab), .val (.int hh), .val (.ref b1), .val (.double (own_W ab xt q f)), .second, .val (.int (xt * q)), .val (.int (f + (1 : Int32))), .val (.long ((ab.toInt64) + (((xt * q) / (f + (1 : Int32))).toInt64))), .second, .val (.int ((xt * q) % (f + (1 : Int32)))), .val (.double (FP.l2d ((ab.toInt64) + (((xt * q) / (f + (1 : Int32))).toInt64)))), .second, .unset, .unset, .unset, .unset] [(.double (FP.l2d ((ab.toInt64) + (((xt * q) / (f + (1 : Int32))).toInt64)))), (.double (own_W ab xt q f))]))
    refine OwnEnds.st (fun t k => XS.dcmpS X3.here hx rfl (hb hby at_126) rfl (w6 hr) k) ?_
    show OwnEnds _ _ _ _ _ _ _ (T3.setTop (mkF m 127 #[.val (.int p1), .val (.int p2), .val (.int p3), .val (.int p4), .val (.int p5), .val (.int f), .val (.int xt), .val (.int sz), .val (.int q), .val (.int hf), .val (.int ab), .val (.int hh), .val (.ref b1), .val (.double (own_W ab xt q f)), .second, .val (.int (xt * q)), .val (.int (f + (1 : Int32))), .val (.long ((ab.toInt64) + (((xt * q) / (f + (1 : Int32))).toInt64))), .second, .val (.int ((xt * q) % (f + (1 : Int32)))), .val (.double (FP.l2d ((ab.toInt64) + (((xt * q) / (f + (1 : Int32))).toInt64)))), .second, .unset, .unset, .unset, .unset] [(.int (0 : Int32))]))
    refine OwnEnds.st (fun t k => XS.ifNo X3.here hx rfl (hb hby at_127) rfl ((if0 _ _).trans (teq (rfl : (0 : Int32) = (0 : Int32))).2) k) ?_
    show OwnEnds _ _ _ _ _ _ _ (T3.setTop (mkF m 130 #[.val (.int p1), .val (.int p2), .val (.int p3), .val (.int p4), .val (.int p5), .val (.int f), .val (.int xt), .val (.int sz), .val (.int q), .val (.int hf), .val (.int ab), .val (.int hh), .val (.ref b1), .val (.double (own_W ab xt q f)), .second, .val (.int (xt * q)), .val (.int (f + (1 : Int32))), .val (.long ((ab.toInt64) + (((xt * q) / (f + (1 : Int32))).toInt64))), .second, .val (.int ((xt * q) % (f + (1 : Int32)))), .val (.double (FP.l2d ((ab.toInt64) + (((xt * q) / (f + (1 : Int32))).toInt64)))), .second, .unset, .unset, .unset, .unset] []))
    refine OwnEnds.st (fun t k => XS.iconst X3.here hx rfl (hb hby at_130) k) ?_
    show OwnEnds _ _ _ _ _ _ _ (T3.setTop (mkF m 131 #[.val (.int p1), .val (.int p2), .val (.int p3), .val (.int p4), .val (.int p5), .val (.int f), .val (.int xt), .val (.int sz), .val (.int q), .val (.int hf), .val (.int ab), .val (.int hh), .val (.ref b1), .val (.double (own_W ab xt q f)), .second, .val (.int (xt * q)), .val (.int (f + (1 : Int32))), .val (.long ((ab.toInt64) + (((xt * q) / (f + (1 : Int32))).toInt64))), .second, .val (.int ((xt * q) % (f + (1 : Int32)))), .val (.double (FP.l2d ((ab.toInt64) + (((xt * q) / (f + (1 : Int32))).toInt64)))), .second, .unset, .unset, .unset, .unset] [(.int (1 : Int32))]))
    refine OwnEnds.st (fun t k => XS.goto X3.here hx rfl (pc0 := 131) (pc' := 135) rfl (hb hby at_131) (by decide) (by decide) k) ?_
    show OwnEnds _ _ _ _ _ _ _ (T3.setTop (mkF m 135 #[.val (.int p1), .val (.int p2), .val (.int p3), .val (.int p4), .val (.int p5), .val (.int f), .val (.int xt), .val (.int sz), .val (.int q), .val (.int hf), .val (.int ab), .val (.int hh), .val (.ref b1), .val (.double (own_W ab xt q f)), .second, .val (.int (xt * q)), .val (.int (f + (1 : Int32))), .val (.long ((ab.toInt64) + (((xt * q) / (f + (1 : Int32))).toInt64))), .second, .val (.int ((xt * q) % (f + (1 : Int32)))), .val (.double (FP.l2d ((ab.toInt64) + (((xt * q) / (f + (1 : Int32))).toInt64)))), .second, .unset, .unset, .unset, .unset] [(.int (1 : Int32))]))
    refine own_retN (t := .boolean) X3 hx Bd.returns Bd.notSynchronized (by simp) (hb hby at_135) ?_ (by decide) (by decide)
    show Q0 Z p1 p2 p3 p4 p5 h0 n0 _ T3.heap _
    exact ⟨rfl, N3⟩
  · obtain ⟨v1, v2, v3, v4, v5, v6⟩ := w7 hr
    refine OwnEnds.st (fun t k => XS.ifYes X3.here hx rfl (pc0 := 119) (pc' := 136) rfl (hb hby at_119) rfl ((if0 _ _).trans (feq (hr : ¬ (((xt * q) % (f + (1 : Int32))) = (0 : Int32)))).2) (by decide) (by decide) k) ?_
    show OwnEnds _ _ _ _ _ _ _ (T3.setTop (mkF m 136 #[.val (.int p1), .val (.int p2), .val (.int p3), .val (.int p4), .val (.int p5), .val (.int f), .val (.int xt), .val (.int sz), .val (.int q), .val (.int hf), .val (.int ab), .val (.int hh), .val (.ref b1), .val (.double (own_W ab xt q f)), .second, .val (.int (xt * q)), .val (.int (f + (1 : Int32))), .val (.long ((ab.toInt64) + (((xt * q) / (f + (1 : Int32))).toInt64))), .second, .val (.int ((xt * q) % (f + (1 : Int32)))), .val (.double (FP.l2d ((ab.toInt64) + (((xt * q) / (f + (1 : Int32))).toInt64)))), .second, .unset, .unset, .unset, .unset] []))
    refine OwnEnds.st (fun t k => XS.dload X3.here hx rfl (hb hby at_136) rfl k) ?_
    show OwnEnds _ _ _ _ _ _ _ (T3.setTop (mkF m 138 #[.val (.int p1), .val (.int p2), .val (.int p3), .val (.int p4), .val (.int p5), .val (.int f), .val (.int xt), .val (.int sz), .val (.int q), .val (.int hf), .val (.int ab), .val (.int hh), .val (.ref b1), .val (.double (own_W ab xt q f)), .second, .val (.int (xt * q)), .val (.int (f + (1 : Int32))), .val (.long ((ab.toInt64) + (((xt * q) / (f + (1 : Int32))).toInt64))), .second, .val (.int ((xt * q) % (f + (1 : Int32)))), .val (.double (FP.l2d ((ab.toInt64) + (((xt * q) / (f + (1 : Int32))).toInt64)))), .second, .unset, .unset, .unset, .unset] [(.double (own_W ab xt q f))]))
    refine OwnEnds.st (fun t k => XS.dload X3.here hx rfl (hb hby at_138) rfl k) ?_
    show OwnEnds _ _ _ _ _ _ _ (T3.setTop (mkF m 140 #[.val (.int p1), .val (.int p2), .val (.int p3), .val (.int p4), .val (.int p5), .val (.int f), .val (.int xt), .val (.int sz), .val (.int q), .val (.int hf), .val (.int ab), .val (.int hh), .val (.ref b1), .val (.double (own_W ab xt q f)), .second, .val (.int (xt * q)), .val (.int (f + (1 : Int32))), .val (.long ((ab.toInt64) + (((xt * q) / (f + (1 : Int32))).toInt64))), .second, .val (.int ((xt * q) % (f + (1 : Int32)))), .val (.double (FP.l2d ((ab.toInt64) + (((xt * q) / (f + (1 : Int32))).toInt64)))), .second, .unset, .unset, .unset, .unset] [(.double (FP.l2d ((ab.toInt64) + (((xt * q) / (f + (1 : Int32))).toInt64)))), (.double (own_W ab xt q f))]))
    refine OwnEnds.st (fun t k => XS.dsubS X3.here hx rfl (hb hby at_140) rfl w4 rfl k) ?_
    show OwnEnds _ _ _ _ _ _ _ (T3.setTop (mkF m 141 #[.val (.int p1), .val (.int p2), .val (.int p3), .val (.int p4), .val (.int p5), .val (.int f), .val (.int xt), .val (.int sz), .val (.int q), .val (.int hf), .val (.int ab), .val (.int hh), .val (.ref b1), .val (.double (own_W ab xt q f)), .second, .val (.int (xt * q)), .val (.int (f + (1 : Int32))), .val (.long ((ab.toInt64) + (((xt * q) / (f + (1 : Int32))).toInt64))), .second, .val (.int ((xt * q) % (f + (1 : Int32)))), .val (.double (FP.l2d ((ab.toInt64) + (((xt * q) / (f + (1 : Int32))).toInt64)))), .second, .unset, .unset, .unset, .unset] [(.double (own_F ab xt q f))]))
    refine OwnEnds.st (fun t k => XS.dstore X3.here hx rfl (hb hby at_141) rfl (l' := #[.val (.int p1), .val (.int p2), .val (.int p3), .val (.int p4), .val (.int p5), .val (.int f), .val (.int xt), .val (.int sz), .val (.int q), .val (.int hf), .val (.int ab), .val (.int hh), .val (.ref b1), .val (.double (own_W ab xt q f)), .second, .val (.int (xt * q)), .val (.int (f + (1 : Int32))), .val (.long ((ab.toInt64) + (((xt * q) / (f + (1 : Int32))).toInt64))), .second, .val (.int ((xt * q) % (f + (1 : Int32)))), .val (.double (FP.l2d ((ab.toInt64) + (((xt * q) / (f + (1 : Int32))).toInt64)))), .second, .val (.double (own_F ab xt q f)), .second, .unset, .unset]) rfl k) ?_
    show OwnEnds _ _ _ _ _ _ _ (T3.setTop (mkF m 143 #[.val (.int p1), .val (.int p2), .val (.int p3), .val (.int p4), .val (.int p5), .val (.int f), .val (.int xt), .val (.int sz), .val (.int q), .val (.int hf), .val (.int ab), .val (.int hh), .val (.ref b1), .val (.double (own_W ab xt q f)), .second, .val (.int (xt * q)), .val (.int (f + (1 : Int32))), .val (.long ((ab.toInt64) + (((xt * q) / (f + (1 : Int32))).toInt64))), .second, .val (.int ((xt * q) % (f + (1 : Int32)))), .val (.double (FP.l2d ((ab.toInt64) + (((xt * q) / (f + (1 : Int32))).toInt64)))), .second, .val (.double (own_F ab xt q f)), .second, .unset, .unset] []))
    refine OwnEnds.st (fun t k => XS.dload X3.here hx rfl (hb hby at_143) rfl k) ?_
    show OwnEnds _ _ _ _ _ _ _ (T3.setTop (mkF m 145 #[.val (.int p1), .val (.int p2), .val (.int p3), .val (.int p4), .val (.int p5), .val (.int f), .val (.int xt), .val (.int sz), .val (.int q), .val (.int hf), .val (.int ab), .val (.int hh), .val (.ref b1), .val (.double (own_W ab xt q f)), .second, .val (.int (xt * q)), .val (.int (f + (1 : Int32))), .val (.long ((ab.toInt64) + (((xt * q) / (f + (1 : Int32))).toInt64))), .second, .val (.int ((xt * q) % (f + (1 : Int32)))), .val (.double (FP.l2d ((ab.toInt64) + (((xt * q) / (f + (1 : Int32))).toInt64)))), .second, .val (.double (own_F ab xt q f)), .second, .unset, .unset] [(.double (own_F ab xt q f))]))
    refine OwnEnds.st (fun t k => XS.iload X3.here hx rfl (hb hby at_145) rfl k) ?_
    show OwnEnds _ _ _ _ _ _ _ (T3.setTop (mkF m 147 #[.val (.int p1), .val (.int p2), .val (.int p3), .val (.int p4), .val (.int p5), .val (.int f), .val (.int xt), .val (.int sz), .val (.int q), .val (.int hf), .val (.int ab), .val (.int hh), .val (.ref b1), .val (.double (own_W ab xt q f)), .second, .val (.int (xt * q)), .val (.int (f + (1 : Int32))), .val (.long ((ab.toInt64) + (((xt * q) / (f + (1 : Int32))).toInt64))), .second, .val (.int ((xt * q) % (f + (1 : Int32)))), .val (.double (FP.l2d ((ab.toInt64) + (((xt * q) / (f + (1 : Int32))).toInt64)))), .second, .val (.double (own_F ab xt q f)), .second, .unset, .unset] [(.int (f + (1 : Int32))), (.double (own_F ab xt q f))]))
    refine OwnEnds.st (fun t k => XS.i2dS X3.here hx rfl (hb hby at_147) rfl rfl k) ?_
    show OwnEnds _ _ _ _ _ _ _ (T3.setTop (mkF m 148 #[.val (.int p1), .val (.int p2), .val (.int p3), .val (.int p4), .val (.int p5), .val (.int f), .val (.int xt), .val (.int sz), .val (.int q), .val (.int hf), .val (.int ab), .val (.int hh), .val (.ref b1), .val (.double (own_W ab xt q f)), .second, .val (.int (xt * q)), .val (.int (f + (1 : Int32))), .val (.long ((ab.toInt64) + (((xt * q) / (f + (1 : Int32))).toInt64))), .second, .val (.int ((xt * q) % (f + (1 : Int32)))), .val (.double (FP.l2d ((ab.toInt64) + (((xt * q) / (f + (1 : Int32))).toInt64)))), .second, .val (.double (own_F ab xt q f)), .second, .unset, .unset] [(.double (FP.i2d (f + (1 : Int32)))), (.double (own_F ab xt q f))]))
    refine OwnEnds.st (fun t k => XS.dmulS X3.here hx rfl (hb hby at_148) rfl w5 rfl k) ?_
    show OwnEnds _ _ _ _ _ _ _ (T3.setTop (mkF m 149 #[.val (.int p1), .val (.int p2), .val (.int p3), .val (.int p4), .val (.int p5), .val (.int f), .val (.int xt), .val (.int sz), .val (.int q), .val (.int hf), .val (.int ab), .val (.int hh), .val (.ref b1), .val (.double (own_W ab xt q f)), .second, .val (.int (xt * q)), .val (.int (f + (1 : Int32))), .val (.long ((ab.toInt64) + (((xt * q) / (f + (1 : Int32))).toInt64))), .second, .val (.int ((xt * q) % (f + (1 : Int32)))), .val (.double (FP.l2d ((ab.toInt64) + (((xt * q) / (f + (1 : Int32))).toInt64)))), .second, .val (.double (own_F ab xt q f)), .second, .unset, .unset] [(.double (own_S ab xt q f))]))
    refine OwnEnds.st (fun t k => XS.dstore X3.here hx rfl (hb hby at_149) rfl (l' := #[.val (.int p1), .val (.int p2), .val (.int p3), .val (.int p4), .val (.int p5), .val (.int f), .val (.int xt), .val (.int sz), .val (.int q), .val (.int hf), .val (.int ab), .val (.int hh), .val (.ref b1), .val (.double (own_W ab xt q f)), .second, .val (.int (xt * q)), .val (.int (f + (1 : Int32))), .val (.long ((ab.toInt64) + (((xt * q) / (f + (1 : Int32))).toInt64))), .second, .val (.int ((xt * q) % (f + (1 : Int32)))), .val (.double (FP.l2d ((ab.toInt64) + (((xt * q) / (f + (1 : Int32))).toInt64)))), .second, .val (.double (own_F ab xt q f)), .second, .val (.double (own_S ab xt q f)), .second]) rfl k) ?_
    show OwnEnds _ _ _ _ _ _ _ (T3.setTop (mkF m 151 #[.val (.int p1), .val (.int p2), .val (.int p3), .val (.int p4), .val (.int p5), .val (.int f), .val (.int xt), .val (.int sz), .val (.int q), .val (.int hf), .val (.int ab), .val (.int hh), .val (.ref b1), .val (.double (own_W ab xt q f)), .second, .val (.int (xt * q)), .val (.int (f + (1 : Int32))), .val (.long ((ab.toInt64) + (((xt * q) / (f + (1 : Int32))).toInt64))), .second, .val (.int ((xt * q) % (f + (1 : Int32)))), .val (.double (FP.l2d ((ab.toInt64) + (((xt * q) / (f + (1 : Int32))).toInt64)))), .second, .val (.double (own_F ab xt q f)), .second, .val (.double (own_S ab xt q f)), .second] []))
    refine OwnEnds.st (fun t k => XS.dload X3.here hx rfl (hb hby at_151) rfl k) ?_
    show OwnEnds _ _ _ _ _ _ _ (T3.setTop (mkF m 153 #[.val (.int p1), .val (.int p2), .val (.int p3), .val (.int p4), .val (.int p5), .val (.int f), .val (.int xt), .val (.int sz), .val (.int q), .val (.int hf), .val (.int ab), .val (.int hh), .val (.ref b1), .val (.double (own_W ab xt q f)), .second, .val (.int (xt * q)), .val (.int (f + (1 : Int32))), .val (.long ((ab.toInt64) + (((xt * q) / (f + (1 : Int32))).toInt64))), .second, .val (.int ((xt * q) % (f + (1 : Int32)))), .val (.double (FP.l2d ((ab.toInt64) + (((xt * q) / (f + (1 : Int32))).toInt64)))), .second, .val (.double (own_F ab xt q f)), .second, .val (.double (own_S ab xt q f)), .second] [(.double (own_F ab xt q f))]))
    refine OwnEnds.st (fun t k => XS.dconst0 X3.here hx rfl (hb hby at_153) rfl k) ?_
    show OwnEnds _ _ _ _ _ _ _ (T3.setTop (mkF m 154 #[.val (.int p1), .val (.int p2), .val (.int p3), .val (.int p4), .val (.int p5), .val (.int f), .val (.int xt), .val (.int sz), .val (.int q), .val (.int hf), .val (.int ab), .val (.int hh), .val (.ref b1), .val (.double (own_W ab xt q f)), .second, .val (.int (xt * q)), .val (.int (f + (1 : Int32))), .val (.long ((ab.toInt64) + (((xt * q) / (f + (1 : Int32))).toInt64))), .second, .val (.int ((xt * q) % (f + (1 : Int32)))), .val (.double (FP.l2d ((ab.toInt64) + (((xt * q) / (f + (1 : Int32))).toInt64)))), .second, .val (.double (own_F ab xt q f)), .second, .val (.double (own_S ab xt q f)), .second] [(.double (0 : UInt64)), (.double (own_F ab xt q f))]))
    refine OwnEnds.st (fun t k => XS.dcmpS X3.here hx rfl (hb hby at_154) rfl v1 k) ?_
    show OwnEnds _ _ _ _ _ _ _ (T3.setTop (mkF m 155 #[.val (.int p1), .val (.int p2), .val (.int p3), .val (.int p4), .val (.int p5), .val (.int f), .val (.int xt), .val (.int sz), .val (.int q), .val (.int hf), .val (.int ab), .val (.int hh), .val (.ref b1), .val (.double (own_W ab xt q f)), .second, .val (.int (xt * q)), .val (.int (f + (1 : Int32))), .val (.long ((ab.toInt64) + (((xt * q) / (f + (1 : Int32))).toInt64))), .second, .val (.int ((xt * q) % (f + (1 : Int32)))), .val (.double (FP.l2d ((ab.toInt64) + (((xt * q) / (f + (1 : Int32))).toInt64)))), .second, .val (.double (own_F ab xt q f)), .second, .val (.double (own_S ab xt q f)), .second] [(.int (1 : Int32))]))
    refine OwnEnds.st (fun t k => XS.ifNo X3.here hx rfl (hb hby at_155) rfl ((if0 _ _).trans (tlt ((by decide) : (0 : Int32) < (1 : Int32))).2.2.2) k) ?_
    show OwnEnds _ _ _ _ _ _ _ (T3.setTop (mkF m 158 #[.val (.int p1), .val (.int p2), .val (.int p3), .val (.int p4), .val (.int p5), .val (.int f), .val (.int xt), .val (.int sz), .val (.int q), .val (.int hf), .val (.int ab), .val (.int hh), .val (.ref b1), .val (.double (own_W ab xt q f)), .second, .val (.int (xt * q)), .val (.int (f + (1 : Int32))), .val (.long ((ab.toInt64) + (((xt * q) / (f + (1 : Int32))).toInt64))), .second, .val (.int ((xt * q) % (f + (1 : Int32)))), .val (.double (FP.l2d ((ab.toInt64) + (((xt * q) / (f + (1 : Int32))).toInt64)))), .second, .val (.double (own_F ab xt q f)), .second, .val (.double (own_S ab xt q f)), .second] []))
    refine OwnEnds.st (fun t k => XS.dload X3.here hx rfl (hb hby at_158) rfl k) ?_
    show OwnEnds _ _ _ _ _ _ _ (T3.setTop (mkF m 160 #[.val (.int p1), .val (.int p2), .val (.int p3), .val (.int p4), .val (.int p5), .val (.int f), .val (.int xt), .val (.int sz), .val (.int q), .val (.int hf), .val (.int ab), .val (.int hh), .val (.ref b1), .val (.double (own_W ab xt q f)), .second, .val (.int (xt * q)), .val (.int (f + (1 : Int32))), .val (.long ((ab.toInt64) + (((xt * q) / (f + (1 : Int32))).toInt64))), .second, .val (.int ((xt * q) % (f + (1 : Int32)))), .val (.double (FP.l2d ((ab.toInt64) + (((xt * q) / (f + (1 : Int32))).toInt64)))), .second, .val (.double (own_F ab xt q f)), .second, .val (.double (own_S ab xt q f)), .second] [(.double (own_F ab xt q f))]))
    refine OwnEnds.st (fun t k => XS.dconst1 X3.here hx rfl (hb hby at_160) rfl k) ?_
    show OwnEnds _ _ _ _ _ _ _ (T3.setTop (mkF m 161 #[.val (.int p1), .val (.int p2), .val (.int p3), .val (.int p4), .val (.int p5), .val (.int f), .val (.int xt), .val (.int sz), .val (.int q), .val (.int hf), .val (.int ab), .val (.int hh), .val (.ref b1), .val (.double (own_W ab xt q f)), .second, .val (.int (xt * q)), .val (.int (f + (1 : Int32))), .val (.long ((ab.toInt64) + (((xt * q) / (f + (1 : Int32))).toInt64))), .second, .val (.int ((xt * q) % (f + (1 : Int32)))), .val (.double (FP.l2d ((ab.toInt64) + (((xt * q) / (f + (1 : Int32))).toInt64)))), .second, .val (.double (own_F ab xt q f)), .second, .val (.double (own_S ab xt q f)), .second] [(.double (4607182418800017408 : UInt64)), (.double (own_F ab xt q f))]))
    refine OwnEnds.st (fun t k => XS.dcmpS X3.here hx rfl (hb hby at_161) rfl v2 k) ?_
    show OwnEnds _ _ _ _ _ _ _ (T3.setTop (mkF m 162 #[.val (.int p1), .val (.int p2), .val (.int p3), .val (.int p4), .val (.int p5), .val (.int f), .val (.int xt), .val (.int sz), .val (.int q), .val (.int hf), .val (.int ab), .val (.int hh), .val (.ref b1), .val (.double (own_W ab xt q f)), .second, .val (.int (xt * q)), .val (.int (f + (1 : Int32))), .val (.long ((ab.toInt64) + (((xt * q) / (f + (1 : Int32))).toInt64))), .second, .val (.int ((xt * q) % (f + (1 : Int32)))), .val (.double (FP.l2d ((ab.toInt64) + (((xt * q) / (f + (1 : Int32))).toInt64)))), .second, .val (.double (own_F ab xt q f)), .second, .val (.double (own_S ab xt q f)), .second] [(.int (-1 : Int32))]))
    refine OwnEnds.st (fun t k => XS.ifNo X3.here hx rfl (hb hby at_162) rfl ((if0 _ _).trans (tlt ((by decide) : (-1 : Int32) < (0 : Int32))).2.1) k) ?_
    show OwnEnds _ _ _ _ _ _ _ (T3.setTop (mkF m 165 #[.val (.int p1), .val (.int p2), .val (.int p3), .val (.int p4), .val (.int p5), .val (.int f), .val (.int xt), .val (.int sz), .val (.int q), .val (.int hf), .val (.int ab), .val (.int hh), .val (.ref b1), .val (.double (own_W ab xt q f)), .second, .val (.int (xt * q)), .val (.int (f + (1 : Int32))), .val (.long ((ab.toInt64) + (((xt * q) / (f + (1 : Int32))).toInt64))), .second, .val (.int ((xt * q) % (f + (1 : Int32)))), .val (.double (FP.l2d ((ab.toInt64) + (((xt * q) / (f + (1 : Int32))).toInt64)))), .second, .val (.double (own_F ab xt q f)), .second, .val (.double (own_S ab xt q f)), .second] []))
    refine OwnEnds.st (fun t k => XS.dload X3.here hx rfl (hb hby at_165) rfl k) ?_
    show OwnEnds _ _ _ _ _ _ _ (T3.setTop (mkF m 167 #[.val (.int p1), .val (.int p2), .val (.int p3), .val (.int p4), .val (.int p5), .val (.int f), .val (.int xt), .val (.int sz), .val (.int q), .val (.int hf), .val (.int ab), .val (.int hh), .val (.ref b1), .val (.double (own_W ab xt q f)), .second, .val (.int (xt * q)), .val (.int (f + (1 : Int32))), .val (.long ((ab.toInt64) + (((xt * q) / (f + (1 : Int32))).toInt64))), .second, .val (.int ((xt * q) % (f + (1 : Int32)))), .val (.double (FP.l2d ((ab.toInt64) + (((xt * q) / (f + (1 : Int32))).toInt64)))), .second, .val (.double (own_F ab xt q f)), .second, .val (.double (own_S ab xt q f)), .second] [(.double (own_S ab xt q f))]))
    refine OwnEnds.st (fun t k => XS.iload X3.here hx rfl (hb hby at_167) rfl k) ?_
    show OwnEnds _ _ _ _ _ _ _ (T3.setTop (mkF m 169 #[.val (.int p1), .val (.int p2), .val (.int p3), .val (.int p4), .val (.int p5), .val (.int f), .val (.int xt), .val (.int sz), .val (.int q), .val (.int hf), .val (.int ab), .val (.int hh), .val (.ref b1), .val (.double (own_W ab xt q f)), .second, .val (.int (xt * q)), .val (.int (f + (1 : Int32))), .val (.long ((ab.toInt64) + (((xt * q) / (f + (1 : Int32))).toInt64))), .second, .val (.int ((xt * q) % (f + (1 : Int32)))), .val (.double (FP.l2d ((ab.toInt64) + (((xt * q) / (f + (1 : Int32))).toInt64)))), .second, .val (.double (own_F ab xt q f)), .second, .val (.double (own_S ab xt q f)), .second] [(.int ((xt * q) % (f + (1 : Int32)))), (.double (own_S ab xt q f))]))
    refine OwnEnds.st (fun t k => XS.i2dS X3.here hx rfl (hb hby at_169) rfl rfl k) ?_
    show OwnEnds _ _ _ _ _ _ _ (T3.setTop (mkF m 170 #[.val (.int p1), .val (.int p2), .val (.int p3), .val (.int p4), .val (.int p5), .val (.int f), .val (.int xt), .val (.int sz), .val (.int q), .val (.int hf), .val (.int ab), .val (.int hh), .val (.ref b1), .val (.double (own_W ab xt q f)), .second, .val (.int (xt * q)), .val (.int (f + (1 : Int32))), .val (.long ((ab.toInt64) + (((xt * q) / (f + (1 : Int32))).toInt64))), .second, .val (.int ((xt * q) % (f + (1 : Int32)))), .val (.double (FP.l2d ((ab.toInt64) + (((xt * q) / (f + (1 : Int32))).toInt64)))), .second, .val (.double (own_F ab xt q f)), .second, .val (.double (own_S ab xt q f)), .second] [(.double (FP.i2d ((xt * q) % (f + (1 : Int32))))), (.double (own_S ab xt q f))]))
    refine OwnEnds.st (fun t k => X3.ldc2DoubleC hx hown (mvT hZ (hw _ (List.mem_of_getElem? (i := 29) rfl))) (g := (mkF m 170 #[.val (.int p1), .val (.int p2), .val (.int p3), .val (.int p4), .val (.int p5), .val (.int f), .val (.int xt), .val (.int sz), .val (.int q), .val (.int hf), .val (.int ab), .val (.int hh), .val (.ref b1), .val (.double (own_W ab xt q f)), .second, .val (.int (xt * q)), .val (.int (f + (1 : Int32))), .val (.long ((ab.toInt64) + (((xt * q) / (f + (1 : Int32))).toInt64))), .second, .val (.int ((xt * q) % (f + (1 : Int32)))), .val (.double (FP.l2d ((ab.toInt64) + (((xt * q) / (f + (1 : Int32))).toInt64)))), .second, .val (.double (own_F ab xt q f)), .second, .val (.double (own_S ab xt q f)), .second] [(.double (FP.i2d ((xt * q) % (f + (1 : Int32))))), (.double (own_S ab xt q f))])) rfl (hb hby at_170) t k) ?_
    show OwnEnds _ _ _ _ _ _ _ (T3.setTop (mkF m 173 #[.val (.int p1), .val (.int p2), .val (.int p3), .val (.int p4), .val (.int p5), .val (.int f), .val (.int xt), .val (.int sz), .val (.int q), .val (.int hf), .val (.int ab), .val (.int hh), .val (.ref b1), .val (.double (own_W ab xt q f)), .second, .val (.int (xt * q)), .val (.int (f + (1 : Int32))), .val (.long ((ab.toInt64) + (((xt * q) / (f + (1 : Int32))).toInt64))), .second, .val (.int ((xt * q) % (f + (1 : Int32)))), .val (.double (FP.l2d ((ab.toInt64) + (((xt * q) / (f + (1 : Int32))).toInt64)))), .second, .val (.double (own_F ab xt q f)), .second, .val (.double (own_S ab xt q f)), .second] [(.double (4602678819172646912 : UInt64)), (.double (FP.i2d ((xt * q) % (f + (1 : Int32))))), (.double (own_S ab xt q f))]))
    refine OwnEnds.st (fun t k => XS.dsubS X3.here hx rfl (hb hby at_173) rfl v3 rfl k) ?_
    show OwnEnds _ _ _ _ _ _ _ (T3.setTop (mkF m 174 #[.val (.int p1), .val (.int p2), .val (.int p3), .val (.int p4), .val (.int p5), .val (.int f), .val (.int xt), .val (.int sz), .val (.int q), .val (.int hf), .val (.int ab), .val (.int hh), .val (.ref b1), .val (.double (own_W ab xt q f)), .second, .val (.int (xt * q)), .val (.int (f + (1 : Int32))), .val (.long ((ab.toInt64) + (((xt * q) / (f + (1 : Int32))).toInt64))), .second, .val (.int ((xt * q) % (f + (1 : Int32)))), .val (.double (FP.l2d ((ab.toInt64) + (((xt * q) / (f + (1 : Int32))).toInt64)))), .second, .val (.double (own_F ab xt q f)), .second, .val (.double (own_S ab xt q f)), .second] [(.double (FP.dsub (FP.i2d ((xt * q) % (f + (1 : Int32)))) (4602678819172646912 : UInt64))), (.double (own_S ab xt q f))]))
    refine OwnEnds.st (fun t k => XS.dcmpS X3.here hx rfl (hb hby at_174) rfl v4 k) ?_
    show OwnEnds _ _ _ _ _ _ _ (T3.setTop (mkF m 175 #[.val (.int p1), .val (.int p2), .val (.int p3), .val (.int p4), .val (.int p5), .val (.int f), .val (.int xt), .val (.int sz), .val (.int q), .val (.int hf), .val (.int ab), .val (.int hh), .val (.ref b1), .val (.double (own_W ab xt q f)), .second, .val (.int (xt * q)), .val (.int (f + (1 : Int32))), .val (.long ((ab.toInt64) + (((xt * q) / (f + (1 : Int32))).toInt64))), .second, .val (.int ((xt * q) % (f + (1 : Int32)))), .val (.double (FP.l2d ((ab.toInt64) + (((xt * q) / (f + (1 : Int32))).toInt64)))), .second, .val (.double (own_F ab xt q f)), .second, .val (.double (own_S ab xt q f)), .second] [(.int (1 : Int32))]))
    refine OwnEnds.st (fun t k => XS.ifNo X3.here hx rfl (hb hby at_175) rfl ((if0 _ _).trans (tlt ((by decide) : (0 : Int32) < (1 : Int32))).2.2.2) k) ?_
    show OwnEnds _ _ _ _ _ _ _ (T3.setTop (mkF m 178 #[.val (.int p1), .val (.int p2), .val (.int p3), .val (.int p4), .val (.int p5), .val (.int f), .val (.int xt), .val (.int sz), .val (.int q), .val (.int hf), .val (.int ab), .val (.int hh), .val (.ref b1), .val (.double (own_W ab xt q f)), .second, .val (.int (xt * q)), .val (.int (f + (1 : Int32))), .val (.long ((ab.toInt64) + (((xt * q) / (f + (1 : Int32))).toInt64))), .second, .val (.int ((xt * q) % (f + (1 : Int32)))), .val (.double (FP.l2d ((ab.toInt64) + (((xt * q) / (f + (1 : Int32))).toInt64)))), .second, .val (.double (own_F ab xt q f)), .second, .val (.double (own_S ab xt q f)), .second] []))
    refine OwnEnds.st (fun t k => XS.dload X3.here hx rfl (hb hby at_178) rfl k) ?_
    show OwnEnds _ _ _ _ _ _ _ (T3.setTop (mkF m 180 #[.val (.int p1), .val (.int p2), .val (.int p3), .val (.int p4), .val (.int p5), .val (.int f), .val (.int xt), .val (.int sz), .val (.int q), .val (.int hf), .val (.int ab), .val (.int hh), .val (.ref b1), .val (.double (own_W ab xt q f)), .second, .val (.int (xt * q)), .val (.int (f + (1 : Int32))), .val (.long ((ab.toInt64) + (((xt * q) / (f + (1 : Int32))).toInt64))), .second, .val (.int ((xt * q) % (f + (1 : Int32)))), .val (.double (FP.l2d ((ab.toInt64) + (((xt * q) / (f + (1 : Int32))).toInt64)))), .second, .val (.double (own_F ab xt q f)), .second, .val (.double (own_S ab xt q f)), .second] [(.double (own_S ab xt q f))]))
    refine OwnEnds.st (fun t k => XS.iload X3.here hx rfl (hb hby at_180) rfl k) ?_
    show OwnEnds _ _ _ _ _ _ _ (T3.setTop (mkF m 182 #[.val (.int p1), .val (.int p2), .val (.int p3), .val (.int p4), .val (.int p5), .val (.int f), .val (.int xt), .val (.int sz), .val (.int q), .val (.int hf), .val (.int ab), .val (.int hh), .val (.ref b1), .val (.double (own_W ab xt q f)), .second, .val (.int (xt * q)), .val (.int (f + (1 : Int32))), .val (.long ((ab.toInt64) + (((xt * q) / (f + (1 : Int32))).toInt64))), .second, .val (.int ((xt * q) % (f + (1 : Int32)))), .val (.double (FP.l2d ((ab.toInt64) + (((xt * q) / (f + (1 : Int32))).toInt64)))), .second, .val (.double (own_F ab xt q f)), .second, .val (.double (own_S ab xt q f)), .second] [(.int ((xt * q) % (f + (1 : Int32)))), (.double (own_S ab xt q f))]))
    refine OwnEnds.st (fun t k => XS.i2dS X3.here hx rfl (hb hby at_182) rfl rfl k) ?_
    show OwnEnds _ _ _ _ _ _ _ (T3.setTop (mkF m 183 #[.val (.int p1), .val (.int p2), .val (.int p3), .val (.int p4), .val (.int p5), .val (.int f), .val (.int xt), .val (.int sz), .val (.int q), .val (.int hf), .val (.int ab), .val (.int hh), .val (.ref b1), .val (.double (own_W ab xt q f)), .second, .val (.int (xt * q)), .val (.int (f + (1 : Int32))), .val (.long ((ab.toInt64) + (((xt * q) / (f + (1 : Int32))).toInt64))), .second, .val (.int ((xt * q) % (f + (1 : Int32)))), .val (.double (FP.l2d ((ab.toInt64) + (((xt * q) / (f + (1 : Int32))).toInt64)))), .second, .val (.double (own_F ab xt q f)), .second, .val (.double (own_S ab xt q f)), .second] [(.double (FP.i2d ((xt * q) % (f + (1 : Int32))))), (.double (own_S ab xt q f))]))
    refine OwnEnds.st (fun t k => X3.ldc2DoubleC hx hown (mvT hZ (hw _ (List.mem_of_getElem? (i := 29) rfl))) (g := (mkF m 183 #[.val (.int p1), .val (.int p2), .val (.int p3), .val (.int p4), .val (.int p5), .val (.int f), .val (.int xt), .val (.int sz), .val (.int q), .val (.int hf), .val (.int ab), .val (.int hh), .val (.ref b1), .val (.double (own_W ab xt q f)), .second, .val (.int (xt * q)), .val (.int (f + (1 : Int32))), .val (.long ((ab.toInt64) + (((xt * q) / (f + (1 : Int32))).toInt64))), .second, .val (.int ((xt * q) % (f + (1 : Int32)))), .val (.double (FP.l2d ((ab.toInt64) + (((xt * q) / (f + (1 : Int32))).toInt64)))), .second, .val (.double (own_F ab xt q f)), .second, .val (.double (own_S ab xt q f)), .second] [(.double (FP.i2d ((xt * q) % (f + (1 : Int32))))), (.double (own_S ab xt q f))])) rfl (hb hby at_183) t k) ?_
    show OwnEnds _ _ _ _ _ _ _ (T3.setTop (mkF m 186 #[.val (.int p1), .val (.int p2), .val (.int p3), .val (.int p4), .val (.int p5), .val (.int f), .val (.int xt), .val (.int sz), .val (.int q), .val (.int hf), .val (.int ab), .val (.int hh), .val (.ref b1), .val (.double (own_W ab xt q f)), .second, .val (.int (xt * q)), .val (.int (f + (1 : Int32))), .val (.long ((ab.toInt64) + (((xt * q) / (f + (1 : Int32))).toInt64))), .second, .val (.int ((xt * q) % (f + (1 : Int32)))), .val (.double (FP.l2d ((ab.toInt64) + (((xt * q) / (f + (1 : Int32))).toInt64)))), .second, .val (.double (own_F ab xt q f)), .second, .val (.double (own_S ab xt q f)), .second] [(.double (4602678819172646912 : UInt64)), (.double (FP.i2d ((xt * q) % (f + (1 : Int32))))), (.double (own_S ab xt q f))]))
    refine OwnEnds.st (fun t k => XS.daddS X3.here hx rfl (hb hby at_186) rfl v5 rfl k) ?_
    show OwnEnds _ _ _ _ _ _ _ (T3.setTop (mkF m 187 #[.val (.int p1), .val (.int p2), .val (.int p3), .val (.int p4), .val (.int p5), .val (.int f), .val (.int xt), .val (.int sz), .val (.int q), .val (.int hf), .val (.int ab), .val (.int hh), .val (.ref b1), .val (.double (own_W ab xt q f)), .second, .val (.int (xt * q)), .val (.int (f + (1 : Int32))), .val (.long ((ab.toInt64) + (((xt * q) / (f + (1 : Int32))).toInt64))), .second, .val (.int ((xt * q) % (f + (1 : Int32)))), .val (.double (FP.l2d ((ab.toInt64) + (((xt * q) / (f + (1 : Int32))).toInt64)))), .second, .val (.double (own_F ab xt q f)), .second, .val (.double (own_S ab xt q f)), .second] [(.double (FP.dadd (FP.i2d ((xt * q) % (f + (1 : Int32)))) (4602678819172646912 : UInt64))), (.double (own_S ab xt q f))]))
    refine OwnEnds.st (fun t k => XS.dcmpS X3.here hx rfl (hb hby at_187) rfl v6 k) ?_
    show OwnEnds _ _ _ _ _ _ _ (T3.setTop (mkF m 188 #[.val (.int p1), .val (.int p2), .val (.int p3), .val (.int p4), .val (.int p5), .val (.int f), .val (.int xt), .val (.int sz), .val (.int q), .val (.int hf), .val (.int ab), .val (.int hh), .val (.ref b1), .val (.double (own_W ab xt q f)), .second, .val (.int (xt * q)), .val (.int (f + (1 : Int32))), .val (.long ((ab.toInt64) + (((xt * q) / (f + (1 : Int32))).toInt64))), .second, .val (.int ((xt * q) % (f + (1 : Int32)))), .val (.double (FP.l2d ((ab.toInt64) + (((xt * q) / (f + (1 : Int32))).toInt64)))), .second, .val (.double (own_F ab xt q f)), .second, .val (.double (own_S ab xt q f)), .second] [(.int (-1 : Int32))]))
    refine OwnEnds.st (fun t k => XS.ifNo X3.here hx rfl (hb hby at_188) rfl ((if0 _ _).trans (tlt ((by decide) : (-1 : Int32) < (0 : Int32))).2.1) k) ?_
    show OwnEnds _ _ _ _ _ _ _ (T3.setTop (mkF m 191 #[.val (.int p1), .val (.int p2), .val (.int p3), .val (.int p4), .val (.int p5), .val (.int f), .val (.int xt), .val (.int sz), .val (.int q), .val (.int hf), .val (.int ab), .val (.int hh), .val (.ref b1), .val (.double (own_W ab xt q f)), .second, .val (.int (xt * q)), .val (.int (f + (1 : Int32))), .val (.long ((ab.toInt64) + (((xt * q) / (f + (1 : Int32))).toInt64))), .second, .val (.int ((xt * q) % (f + (1 : Int32)))), .val (.double (FP.l2d ((ab.toInt64) + (((xt * q) / (f + (1 : Int32))).toInt64)))), .second, .val (.double (own_F ab xt q f)), .second, .val (.double (own_S ab xt q f)), .second] []))
    refine OwnEnds.st (fun t k => XS.iconst X3.here hx rfl (hb hby at_191) k) ?_
    show OwnEnds _ _ _ _ _ _ _ (T3.setTop (mkF m 192 #[.val (.int p1), .val (.int p2), .val (.int p3), .val (.int p4), .val (.int p5), .val (.int f), .val (.int xt), .val (.int sz), .val (.int q), .val (.int hf), .val (.int ab), .val (.int hh), .val (.ref b1), .val (.double (own_W ab xt q f)), .second, .val (.int (xt * q)), .val (.int (f + (1 : Int32))), .val (.long ((ab.toInt64) + (((xt * q) / (f + (1 : Int32))).toInt64))), .second, .val (.int ((xt * q) % (f + (1 : Int32)))), .val (.double (FP.l2d ((ab.toInt64) + (((xt * q) / (f + (1 : Int32))).toInt64)))), .second, .val (.double (own_F ab xt q f)), .second, .val (.double (own_S ab xt q f)), .second] [(.int (1 : Int32))]))
    refine OwnEnds.st (fun t k => XS.goto X3.here hx rfl (pc0 := 192) (pc' := 196) rfl (hb hby at_192) (by decide) (by decide) k) ?_
    show OwnEnds _ _ _ _ _ _ _ (T3.setTop (mkF m 196 #[.val (.int p1), .val (.int p2), .val (.int p3), .val (.int p4), .val (.int p5), .val (.int f), .val (.int xt), .val (.int sz), .val (.int q), .val (.int hf), .val (.int ab), .val (.int hh), .val (.ref b1), .val (.double (own_W ab xt q f)), .second, .val (.int (xt * q)), .val (.int (f + (1 : Int32))), .val (.long ((ab.toInt64) + (((xt * q) / (f + (1 : Int32))).toInt64))), .second, .val (.int ((xt * q) % (f + (1 : Int32)))), .val (.double (FP.l2d ((ab.toInt64) + (((xt * q) / (f + (1 : Int32))).toInt64)))), .second, .val (.double (own_F ab xt q f)), .second, .val (.double (own_S ab xt q f)), .second] [(.int (1 : Int32))]))
    refine own_retN (t := .boolean) X3 hx Bd.returns Bd.notSynchronized (by simp) (hb hby at_196) ?_ (by decide) (by decide)
    show Q0 Z p1 p2 p3 p4 p5 h0 n0 _ T3.heap _
    exact ⟨rfl, N3⟩
set_option maxRecDepth 65536 in
set_option maxHeartbeats 40000000 in
theorem comes_1 {Post : Tables → Env → Array Value → State → Outcome → State → Prop} (hpost : ∀ tb e args s v u, (limb_1_1.after args s (.returned v) u = true ∧ limb_1_2.after args s (.returned v) u = true ∧ True) → FrameEnd s (.returned v) u (Jvm.fieldLocs frame_1_writes args s ++ Jvm.arrayLocs frame_1_arrays args s ++ Jvm.staticLocs frame_1_statics s) 16 128 → Post tb e args s (.returned v) u) :
    ArmFor flags0 classFile x code maxLocals ret World_1 tables_1 room_1 Calls_1 rest_1 Pre_1 Post := by
  intro l hfl _ _ p e ha hc hk s m args below hf hA hF happ hP
  obtain ⟨hcalls, hrest, hpre⟩ := hP
  obtain ⟨-, -, -, hnamed, -, -, -, hat⟩ := (Spec.applies_iff hf).mp happ
  obtain ⟨hg, hn⟩ := and_e (Cond.before_iff.mp (show (Jvm.Cond.and given_1 narrow_1).before args s = true from hpre))
  obtain ⟨hcount, ga0⟩ := and_e hg
  obtain ⟨gb0, ga1⟩ := and_e ga0
  obtain ⟨gb1, ga2⟩ := and_e ga1
  obtain ⟨gb2, ga3⟩ := and_e ga2
  obtain ⟨gb3, ga4⟩ := and_e ga3
  obtain ⟨w0, w1, w2, w3, w4, rfl⟩ : ∃ w0 w1 w2 w3 w4 : Value, args = #[w0, w1, w2, w3, w4] := by
    have hs : args.size = 5 := by simpa [Cond.value, given_1] using hcount
    obtain ⟨L⟩ := args
    match L, hs with
    | [w0, w1, w2, w3, w4], _ => exact ⟨w0, w1, w2, w3, w4, rfl⟩
  have hw := fun d (hd : d ∈ tables_1) => atoms_spec (ws := Jvm.Cond.code x code maxLocals ret :: tables_1) hat d (List.mem_cons_of_mem _ hd)
  have hfit : Fit s := fun {y c} hc i hi => by
    obtain ⟨ha, rfl⟩ := Array.getElem?_eq_some_iff.mp hc
    have q := List.all_eq_true.mp ((Array.all_eq_true_iff_forall_mem.mp hF) _ (Array.getElem_mem ha)) i (List.mem_range.mpr hi)
    simpa [Array.getElem?_eq_getElem hi] using q
  obtain ⟨i0, ei0⟩ := is_v gb0
  obtain rfl : w0 = (.int i0) := Option.some.inj ei0
  obtain ⟨i1, ei1⟩ := is_v gb1
  obtain rfl : w1 = (.int i1) := Option.some.inj ei1
  obtain ⟨i2, ei2⟩ := is_v gb2
  obtain rfl : w2 = (.int i2) := Option.some.inj ei2
  obtain ⟨i3, ei3⟩ := is_v gb3
  obtain rfl : w3 = (.int i3) := Option.some.inj ei3
  obtain ⟨i4, ei4⟩ := is_v ga4
  obtain rfl : w4 = (.int i4) := Option.some.inj ei4
  obtain ⟨n, o, h1, h2, h3, _, L, rfl, ⟨rfl, N⟩, hq⟩ := rm0 l s _ hw tables_1 i0 i1 i2 i3 i4 s.heap s.heap.size (Nat.le_refl _) p e ha hc hk s m _ below hf ((Spec.applies_iff_loose hf).mp happ).1 ⟨rfl, State.Warmed39.refl s, rfl⟩ trivial
  refine ⟨n, _, h1, h2, h3, hpost _ _ _ _ _ _ ⟨Cond.after_iff.mpr rfl, Cond.after_iff.mpr (eq_i res_at (Term.int_eval (1)) rfl), trivial⟩ ⟨hq.1, hq.2.1, (hq.2.2.sift fun y hy => Or.inr (N y hy)).mono (by decide) (by decide)⟩⟩
theorem main_1_1 : Claimed_1_1 := comes_1 fun _ _ _ _ _ _ h hF => ⟨h.1, hF⟩
theorem main_1_2 : Claimed_1_2 := comes_1 fun _ _ _ _ _ _ h hF => ⟨h.2.1, hF⟩
end Jvm.Pilot.@@N@@
namespace Jvm.Pilot.@@N@@
open Jvm Jvm.ClassFile Sem Op Lib Jvm.Free Jvm.Stand Jvm.Pilot.@@N@@.Jvm.D
/-! MADE BY PROGRAM (witnessworld.py) out of the Statement's table words and the real class files: 10 classes; the members and pool entries that the words name. The judged class is class 1, her method 1. -/
namespace start1
open Jvm.ClassFile
def u (s : String) : CpInfo := .utf8 (stringToUtf16 s)
/-- a pool by its gaps: so many unusable entries, then the entry; so many at the end -/
def gap : Nat → List CpInfo → List CpInfo
  | 0, r => r
  | n + 1, r => .unusable :: gap n r
def poolList (es : List (Nat × CpInfo)) (last : Nat) : List CpInfo := es.foldr (fun e r => gap e.1 (e.2 :: r)) (gap last [])
def pool (es : List (Nat × CpInfo)) (last : Nat) : Array CpInfo := ⟨poolList es last⟩
def fileOf (pool : Array CpInfo) (this : Nat) (attrs : Array Attribute := #[]) (ms : Array MethodInfo := #[]) (fl : Nat := 33) (sup : Nat := 0) (ifs : Array Nat := #[]) (fds : Array FieldInfo := #[]) : ClassFile where
  minorVersion := 0
  majorVersion := 65
  constantPool := pool
  accessFlags := fl
  thisClass := this
  superClass := sup
  interfaces := ifs
  fields := fds
  methods := ms
  attributes := attrs
def plain (name : String) (sup : Option ClassId) : Class where
  name := name
  kind := .ordinary
  loader := none
  accessFlags := 33
  super := sup
  interfaces := #[]
  cf := none
  fields := #[]
  methods := #[]
  instanceTypes := #[]
  staticTypes := #[]
  resolved := #[]
  callSites := []
  init := .initialized
  statics := none
  mirror := none

def pool0 : Array CpInfo := pool [(5, u "<init>"), (0, u "()V"), (1, .class_ 10), (1, u "java/lang/Object")] 113

def k0c0 : Code := { maxStack := 0, maxLocals := 1, code := object_method_1_code, exceptionTable := #[], attributes := #[] }
def k0m0 : Method := { name := "<init>", desc := "()V", sig := { parameters := [], returnType := none }, accessFlags := 1, code := some k0c0 }
/-- java/lang/Object -/
def k0 : Class := { plain "java/lang/Object" none with
  accessFlags := 33
  interfaces := #[]
  cf := some (fileOf pool0 8 #[] #[{ accessFlags := 1, nameIndex := 5, descriptorIndex := 6, attributes := #[] }] 33 0 #[] #[])
  fields := #[]
  methods := #[k0m0]
  instanceTypes := #[]
  staticTypes := #[]
  resolved := Array.replicate 124 none
  statics := none }

def pool1 : Array CpInfo := pool [(2, .class_ 4), (1, u "java/lang/Object"), (0, u "<init>"), (0, u "()V"), (0, .integer 2147483647), (0, .integer 65535), (0, .class_ 10), (0, u "com/example/culpa/culpa/FaultPlacement$Tie"), (0, .methodref 9 12), (0, .nameAndType 5 13), (0, u "(IIII)V"), (0, .methodref 9 15), (0, .nameAndType 16 17), (0, u "wastedEffort"), (0, u "(I)D"), (0, .double 4602678819172646912), (1, .class_ 21), (0, u "com/example/culpa/culpa/TieWastedEffortPinLaw"), (2, u "law"), (0, u "(IIIII)Z")] 7

def k1m0 : Method := { name := "<init>", desc := "()V", sig := { parameters := [], returnType := none }, accessFlags := 1, code := none }
def k1c1 : Code := { maxStack := 6, maxLocals := 26, code := code, exceptionTable := #[], attributes := #[] }
def k1m1 : Method := { name := "law", desc := "(IIIII)Z", sig := { parameters := [.int, .int, .int, .int, .int], returnType := some .boolean }, accessFlags := 9, code := some k1c1 }
/-- com/example/culpa/culpa/TieWastedEffortPinLaw -/
def k1 : Class := { plain "com/example/culpa/culpa/TieWastedEffortPinLaw" (some 0) with
  accessFlags := 49
  interfaces := #[]
  cf := some (fileOf pool1 20 #[] #[{ accessFlags := 1, nameIndex := 5, descriptorIndex := 6, attributes := #[] }, { accessFlags := 9, nameIndex := 24, descriptorIndex := 25, attributes := #[] }] 49 2 #[] #[])
  fields := #[]
  methods := #[k1m0, k1m1]
  instanceTypes := #[]
  staticTypes := #[]
  resolved := Array.replicate 33 none
  statics := none }

def pool2 : Array CpInfo := pool [(1, .methodref 2 3), (0, .class_ 4), (0, .nameAndType 5 6), (0, u "java/lang/Object"), (0, u "<init>"), (0, u "()V"), (0, .class_ 8), (0, u "java/lang/Record")] 13

def k2c0 : Code := { maxStack := 1, maxLocals := 1, code := jdk_30_method_1_code, exceptionTable := #[], attributes := #[] }
def k2m0 : Method := { name := "<init>", desc := "()V", sig := { parameters := [], returnType := none }, accessFlags := 4, code := some k2c0 }
/-- java/lang/Record -/
def k2 : Class := { plain "java/lang/Record" (some 0) with
  accessFlags := 1057
  interfaces := #[]
  cf := some (fileOf pool2 7 #[] #[{ accessFlags := 4, nameIndex := 5, descriptorIndex := 6, attributes := #[] }] 1057 2 #[] #[])
  fields := #[]
  methods := #[k2m0]
  instanceTypes := #[]
  staticTypes := #[]
  resolved := Array.replicate 22 none
  statics := none }

def pool3 : Array CpInfo := pool [(1, .methodref 2 3), (0, .class_ 4), (0, .nameAndType 5 6), (0, u "java/lang/Record"), (0, u "<init>"), (0, u "()V"), (0, .fieldref 8 9), (0, .class_ 10), (0, .nameAndType 11 12), (0, u "com/example/culpa/culpa/FaultPlacement$Tie"), (0, u "higher"), (0, u "I"), (0, .fieldref 8 14), (0, .nameAndType 15 12), (0, u "higherFaulty"), (0, .fieldref 8 17), (0, .nameAndType 18 12), (0, u "size"), (0, .fieldref 8 20), (0, .nameAndType 21 12), (0, u "faulty"), (14, u "(IIII)V"), (5, u "wastedEffort"), (0, u "(I)D"), (6, .class_ 51), (0, u "com/example/culpa/culpa/FaultPlacement")] 22

def k3c0 : Code := { maxStack := 2, maxLocals := 5, code := prog_7_method_1_code, exceptionTable := #[], attributes := #[] }
def k3m0 : Method := { name := "<init>", desc := "(IIII)V", sig := { parameters := [.int, .int, .int, .int], returnType := none }, accessFlags := 0, code := some k3c0 }
def k3c1 : Code := { maxStack := 6, maxLocals := 2, code := prog_7_method_3_code, exceptionTable := #[], attributes := #[] }
def k3m1 : Method := { name := "wastedEffort", desc := "(I)D", sig := { parameters := [.int], returnType := some .double }, accessFlags := 0, code := some k3c1 }
/-- com/example/culpa/culpa/FaultPlacement$Tie -/
def k3 : Class := { plain "com/example/culpa/culpa/FaultPlacement$Tie" (some 2) with
  accessFlags := 48
  interfaces := #[]
  cf := some (fileOf pool3 8 #[.nestHost 50] #[{ accessFlags := 0, nameIndex := 5, descriptorIndex := 36, attributes := #[] }, { accessFlags := 0, nameIndex := 42, descriptorIndex := 43, attributes := #[] }] 48 2 #[] #[{ accessFlags := 18, nameIndex := 11, descriptorIndex := 12, attributes := #[] }, { accessFlags := 18, nameIndex := 15, descriptorIndex := 12, attributes := #[] }, { accessFlags := 18, nameIndex := 18, descriptorIndex := 12, attributes := #[] }, { accessFlags := 18, nameIndex := 21, descriptorIndex := 12, attributes := #[] }])
  fields := #[{ name := "higher", type := .int, accessFlags := 18, slot := 0, constantValue := 0 }, { name := "higherFaulty", type := .int, accessFlags := 18, slot := 1, constantValue := 0 }, { name := "size", type := .int, accessFlags := 18, slot := 2, constantValue := 0 }, { name := "faulty", type := .int, accessFlags := 18, slot := 3, constantValue := 0 }]
  methods := #[k3m0, k3m1]
  instanceTypes := #[.int, .int, .int, .int]
  staticTypes := #[]
  resolved := Array.replicate 74 none
  statics := none }

def pool4 : Array CpInfo := pool [(1, u "java/lang/Cloneable"), (0, .class_ 1), (0, u "java/lang/Object"), (0, .class_ 3)] 3

/-- java/lang/Cloneable -/
def k4 : Class := { plain "java/lang/Cloneable" (some 0) with
  accessFlags := 1537
  interfaces := #[]
  cf := some (fileOf pool4 2 #[] #[] 1537 4 #[] #[])
  fields := #[]
  methods := #[]
  instanceTypes := #[]
  staticTypes := #[]
  resolved := Array.replicate 8 none
  statics := none }

def pool5 : Array CpInfo := pool [(1, u "java/io/Serializable"), (0, .class_ 1), (0, u "java/lang/Object"), (0, .class_ 3)] 3

/-- java/io/Serializable -/
def k5 : Class := { plain "java/io/Serializable" (some 0) with
  accessFlags := 1537
  interfaces := #[]
  cf := some (fileOf pool5 2 #[] #[] 1537 4 #[] #[])
  fields := #[]
  methods := #[]
  instanceTypes := #[]
  staticTypes := #[]
  resolved := Array.replicate 8 none
  statics := none }

/-- the primitive byte -/
def k6 : Class := { plain "byte" none with kind := .primitive 'B', accessFlags := 0x411 }
/-- [B -/
def k7 : Class := { plain "[B" (some 0) with kind := .array 6 .byte, interfaces := #[4, 5], accessFlags := 1041 }

/-- the primitive int -/
def k8 : Class := { plain "int" none with kind := .primitive 'I', accessFlags := 0x411 }
/-- [I -/
def k9 : Class := { plain "[I" (some 0) with kind := .array 8 .int, interfaces := #[4, 5], accessFlags := 1041 }

def heap : Heap := #[]
def classes : Array Class := #[k0, k1, k2, k3, k4, k5, k6, k7, k8, k9]
def interned : List (Array UInt16 × Addr) := []
def slotsUsed : Nat := 0
def theMethod : MethodId := ⟨1, 1⟩
def args0 : Array Value := #[.int 5, .int 7, .int 3, .int 1, .int 2]
def aboutOver (below : List Frame) : State where
  vm := { classes := classes, interned := interned.toArray }
  heap := heap
  slotsUsed := slotsUsed
  threads := #[{ frames := .invoking theMethod args0 :: below }]
def below0 : List Frame := [.native { method := ⟨0, 0⟩, args := #[] }]
def about1 : State := aboutOver below0
def p0 : Program := .bare "" "" ""
def e0 : Env := launch0.env 0 0 0
theorem w_frames : about1.frames = Frame.invoking theMethod args0 :: below0 := rfl
set_option maxRecDepth 65536 in
theorem w_args : argsFit about1.vm theMethod args0 = true := by decide +kernel
set_option maxRecDepth 65536 in
theorem w_heap : heapFits about1 = true := by decide +kernel
set_option maxRecDepth 65536 in
theorem w_runnable : about1.curStatus? = some .runnable := by decide +kernel
set_option maxRecDepth 65536 in
theorem w_alone : about1.alone = true := by decide +kernel
set_option maxRecDepth 65536 in
theorem w_named : about1.methodNamed? x = some theMethod := by decide +kernel
set_option maxRecDepth 65536 in
theorem w_hears : about1.hears theMethod below0 = true := by decide +kernel
set_option maxRecDepth 65536 in
theorem w_ripe : about1.ripe theMethod args0 below0 = true := by decide +kernel
theorem w_running : about1.status = .running := rfl
set_option maxRecDepth 65536 in
theorem w_room : about1.hasRoom e0.platform room_1 = true :=
  launch0.hasRoom_least _ room_1 (by decide +kernel) (by decide +kernel) (by decide +kernel) (by decide +kernel) (by decide +kernel) (by decide +kernel)
theorem allAtoms_all (ts : List Jvm.Cond) (a : Array Jvm.Value) (st : Jvm.State) : (allAtoms ts).before a st = ts.all (fun c => c.before a st) := by
  induction ts with
  | nil => rfl
  | cons c t ih =>
    show (Jvm.Cond.and c (allAtoms t)).before a st = _
    rw [Jvm.Cond.before_and, ih, List.all_cons]
def words1 : List Jvm.Cond := Jvm.Cond.code x code maxLocals ret :: tables_1
/-- a 'code' word, met by the world's own term for the bytes: nothing is compared byte by byte -/
theorem code_word {y : MethodName} {bytes : ByteArray} {mx : Nat} {rt : Option FieldType} {a : Array Value} {s : State} {m : MethodId} {meth : Method} {c : Code} (h1 : s.methodNamed? y = some m) (h2 : s.vm.method? m = some meth) (h3 : meth.code = some c) (h4 : c.code = bytes)
    (h5 : (c.maxLocals == mx && c.exceptionTable.isEmpty && decide (c.maxStack ≤ mostOperands) && decide (meth.sig.returnType = rt) && !meth.locks && decide (parseMethodDescriptor y.desc = some meth.sig)) = true) : (Jvm.Cond.code y bytes mx rt).before a s = true := by
  simp only [Bool.and_eq_true, beq_iff_eq, Bool.not_eq_true', decide_eq_true_eq] at h5
  obtain ⟨⟨⟨⟨⟨g1, g2⟩, g3⟩, g4⟩, g5⟩, g6⟩ := h5
  simp [Cond.before, Cond.holds, Cond.value, h1, h2, h3, h4, g1, g2, g3, g4, g5, g6]
def isCode : Jvm.Cond → Bool
  | .code _ _ _ _ => true
  | _ => false
theorem all_split {L : List Jvm.Cond} {P : Jvm.Cond → Bool} (h1 : L.all (fun c => isCode c || P c) = true) (h2 : ∀ c ∈ L.filter isCode, P c = true) : L.all P = true := by
  refine List.all_eq_true.mpr fun c hc => ?_
  have h := List.all_eq_true.mp h1 c hc
  rcases Bool.eq_false_or_eq_true (isCode c) with hi | hi
  · exact h2 c (List.mem_filter.mpr ⟨hc, hi⟩)
  · simpa [hi] using h
set_option maxRecDepth 65536 in
theorem w_c0 : (Jvm.Cond.code x code maxLocals ret).before args0 about1 = true := code_word (m := ⟨1, 1⟩) (meth := k1m1) (c := k1c1) (by decide +kernel) rfl rfl rfl (by decide +kernel)
set_option maxRecDepth 65536 in
theorem w_c1 : (Jvm.Cond.code ({ cls := "com/example/culpa/culpa/FaultPlacement$Tie", name := "<init>", desc := "(IIII)V" } : Jvm.MethodName) prog_7_method_1_code (5 : Nat) (Option.none : Option Jvm.ClassFile.FieldType)).before args0 about1 = true := code_word (m := ⟨3, 0⟩) (meth := k3m0) (c := k3c0) (by decide +kernel) rfl rfl rfl (by decide +kernel)
set_option maxRecDepth 65536 in
theorem w_c2 : (Jvm.Cond.code ({ cls := "java/lang/Record", name := "<init>", desc := "()V" } : Jvm.MethodName) jdk_30_method_1_code (1 : Nat) (Option.none : Option Jvm.ClassFile.FieldType)).before args0 about1 = true := code_word (m := ⟨2, 0⟩) (meth := k2m0) (c := k2c0) (by decide +kernel) rfl rfl rfl (by decide +kernel)
set_option maxRecDepth 65536 in
theorem w_c3 : (Jvm.Cond.code ({ cls := "java/lang/Object", name := "<init>", desc := "()V" } : Jvm.MethodName) object_method_1_code (1 : Nat) (Option.none : Option Jvm.ClassFile.FieldType)).before args0 about1 = true := code_word (m := ⟨0, 0⟩) (meth := k0m0) (c := k0c0) (by decide +kernel) rfl rfl rfl (by decide +kernel)
set_option maxRecDepth 65536 in
theorem w_c4 : (Jvm.Cond.code ({ cls := "com/example/culpa/culpa/FaultPlacement$Tie", name := "wastedEffort", desc := "(I)D" } : Jvm.MethodName) prog_7_method_3_code (2 : Nat) (Option.some Jvm.ClassFile.FieldType.double)).before args0 about1 = true := code_word (m := ⟨3, 1⟩) (meth := k3m1) (c := k3c1) (by decide +kernel) rfl rfl rfl (by decide +kernel)
def codes1 : List Jvm.Cond := [Jvm.Cond.code x code maxLocals ret, Jvm.Cond.code ({ cls := "com/example/culpa/culpa/FaultPlacement$Tie", name := "<init>", desc := "(IIII)V" } : Jvm.MethodName) prog_7_method_1_code (5 : Nat) (Option.none : Option Jvm.ClassFile.FieldType), Jvm.Cond.code ({ cls := "java/lang/Record", name := "<init>", desc := "()V" } : Jvm.MethodName) jdk_30_method_1_code (1 : Nat) (Option.none : Option Jvm.ClassFile.FieldType), Jvm.Cond.code ({ cls := "java/lang/Object", name := "<init>", desc := "()V" } : Jvm.MethodName) object_method_1_code (1 : Nat) (Option.none : Option Jvm.ClassFile.FieldType), Jvm.Cond.code ({ cls := "com/example/culpa/culpa/FaultPlacement$Tie", name := "wastedEffort", desc := "(I)D" } : Jvm.MethodName) prog_7_method_3_code (2 : Nat) (Option.some Jvm.ClassFile.FieldType.double)]
set_option maxRecDepth 65536 in
theorem codes_eq : words1.filter isCode = codes1 := rfl
theorem w_codes : ∀ c ∈ words1.filter isCode, c.before args0 about1 = true := by
  rw [codes_eq]
  intro c hc
  simp only [codes1, List.mem_cons, List.not_mem_nil, or_false] at hc
  rcases hc with rfl | rfl | rfl | rfl | rfl
  · exact w_c0
  · exact w_c1
  · exact w_c2
  · exact w_c3
  · exact w_c4
set_option maxRecDepth 65536 in
theorem w_t1 : (words1.take 24).all (fun c => isCode c || c.before args0 about1) = true := by decide +kernel
set_option maxRecDepth 65536 in
theorem w_t2 : (words1.drop 24).all (fun c => isCode c || c.before args0 about1) = true := by decide +kernel
theorem w_tables : (allAtoms (Jvm.Cond.code x code maxLocals ret :: tables_1)).before args0 about1 = true := by
  rw [allAtoms_all]
  show words1.all (fun c => c.before args0 about1) = true
  refine all_split ?_ w_codes
  rw [← List.take_append_drop 24 words1, List.all_append, w_t1, w_t2]
  rfl
set_option maxRecDepth 65536 in
theorem w_case : (Jvm.Cond.and given_1 narrow_1).before args0 about1 = true := by decide +kernel
theorem w_applies : (headSpec (Jvm.Cond.code x code maxLocals ret :: tables_1) room_1).applies x e0.platform about1 = true :=
  (Spec.applies_iff w_frames).mpr ⟨w_running, w_runnable, w_alone, w_named, w_hears, w_ripe, w_room, w_tables⟩
theorem atStart : AtStart classFile x code maxLocals ret World_1 tables_1 room_1 Calls_1 rest_1 Pre_1 launch0 p0 e0 about1 theMethod args0 below0 :=
  ⟨lists_1, trivial, launch0.admits_env _ _ _, launch0.least_env, fairChoices_fair.cas, fairChoices_fair.clock, w_frames, w_args, w_heap, w_applies, trivial, trivial, w_case⟩
end start1
theorem witness_1 : WitnessClaimed_1 := ⟨start1.p0, start1.e0, start1.about1, start1.theMethod, start1.args0, start1.below0, start1.atStart⟩
end Jvm.Pilot.@@N@@
