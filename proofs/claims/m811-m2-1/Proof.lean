import JvmDerived
import JvmDerived.Pilot.@@N@@Statement
import JvmDerived.Pilot.@@N@@Code
set_option linter.unusedVariables false
set_option linter.unusedSimpArgs false
namespace Jvm.RoadKit
open Sem ClassFile Op Lib Jvm.Stand Jvm.Free Jvm.LawKit
section OwnNew
variable {p : Program} {l : Launch} {e : Env} {R : Room} {s : State} {m : MethodId} {args : Array Value} {below : List Frame} {meth : Method} {c : Code} {T : State} {locs : List Loc} {cells slots : Nat}
/-- from S0 the run comes to the method's return, with what Q says there -/
def OwnEnds (p : Program) (e : Env) (below : List Frame) (s : State) (Q : Option Value → Heap → List Loc → Prop) (ck sk : Nat) (S0 : State) : Prop :=
  ∃ s₂ o, Steps p.tables e below S0 s₂ ∧ s₂.status = .running ∧ Ended s₂ below o ∧ ∃ v L, o = .returned v ∧ Q v s₂.heap L ∧ FrameEnd s o s₂ L ck sk
theorem OwnEnds.st {Q : Option Value → Heap → List Loc → Prop} {ck sk : Nat} {S0 S1 : State} (h : ∀ t, Steps p.tables e below S1 t → Steps p.tables e below S0 t) (k : OwnEnds p e below s Q ck sk S1) : OwnEnds p e below s Q ck sk S0 := by
  obtain ⟨s₂, o, h1, h2⟩ := k
  exact ⟨s₂, o, h _ h1, h2⟩
theorem OwnEnds.go {Q : Option Value → Heap → List Loc → Prop} {ck sk : Nat} {S0 S1 : State} (h : Steps p.tables e below S0 S1) (k : OwnEnds p e below s Q ck sk S1) : OwnEnds p e below s Q ck sk S0 := by
  obtain ⟨s₂, o, h1, h2⟩ := k
  exact ⟨s₂, o, h.trans h1, h2⟩
theorem own_out (X : Stand p l e R s m args below meth c T locs cells slots) (hx : p.tables.exec = Jvm.exec) {pc : Nat} {Ls : Array Slot} {w : Value} {t : FieldType} {i : Instr} {rest : List Value} (hret : meth.sig.returnType = some t) (hlocks : meth.locks = false) (hn : narrow t w = w)
    (hi : (i = .ireturn ∧ (t = .int ∨ t = .boolean ∨ t = .byte ∨ t = .char ∨ t = .short) ∧ ∃ z, w = .int z) ∨ (i = .lreturn ∧ t = .long ∧ ∃ z, w = .long z) ∨ (i = .dreturn ∧ t = .double ∧ ∃ z, w = .double z) ∨ (i = .freturn ∧ t = .float ∧ ∃ z, w = .float z) ∨ (i = .areturn ∧ t.isReference = true ∧ w.isRef = true))
    (hd : decode c.code pc = .ok (i, 1)) {Q : Option Value → Heap → List Loc → Prop} {ck sk : Nat} (hQ : Q (some w) T.heap locs) (hc : cells ≤ ck) (hs : slots ≤ sk) : OwnEnds p e below s Q ck sk (T.setTop (mkF m pc Ls (w :: rest))) := by
  obtain ⟨fs, hr, hrun, hended, hW, hsame⟩ := X.leave (v := some w) (fun h => by rw [hret] at h; cases h) hlocks
  exact ⟨_, _, retOut X hx hret hn hi hd hr, hrun, hended, _, _, rfl, hQ, ⟨_, rfl⟩, hW, hsame.mono hc hs⟩
theorem own_retI (X : Stand p l e R s m args below meth c T locs cells slots) (hx : p.tables.exec = Jvm.exec) {pc : Nat} {Ls : Array Slot} {z : Int32} {rest : List Value} (hret : meth.sig.returnType = some .int) (hlocks : meth.locks = false) (hd : decode c.code pc = .ok (.ireturn, 1))
    {Q : Option Value → Heap → List Loc → Prop} {ck sk : Nat} (hQ : Q (some (.int z)) T.heap locs) (hc : cells ≤ ck) (hs : slots ≤ sk) : OwnEnds p e below s Q ck sk (T.setTop (mkF m pc Ls (.int z :: rest))) :=
  own_out X hx hret hlocks rfl (Or.inl ⟨rfl, Or.inl rfl, _, rfl⟩) hd hQ hc hs
theorem own_retJ (X : Stand p l e R s m args below meth c T locs cells slots) (hx : p.tables.exec = Jvm.exec) {pc : Nat} {Ls : Array Slot} {z : Int64} {rest : List Value} (hret : meth.sig.returnType = some .long) (hlocks : meth.locks = false) (hd : decode c.code pc = .ok (.lreturn, 1))
    {Q : Option Value → Heap → List Loc → Prop} {ck sk : Nat} (hQ : Q (some (.long z)) T.heap locs) (hc : cells ≤ ck) (hs : slots ≤ sk) : OwnEnds p e below s Q ck sk (T.setTop (mkF m pc Ls (.long z :: rest))) :=
  own_out X hx hret hlocks rfl (Or.inr (Or.inl ⟨rfl, rfl, _, rfl⟩)) hd hQ hc hs
theorem own_retD (X : Stand p l e R s m args below meth c T locs cells slots) (hx : p.tables.exec = Jvm.exec) {pc : Nat} {Ls : Array Slot} {z : UInt64} {rest : List Value} (hret : meth.sig.returnType = some .double) (hlocks : meth.locks = false) (hd : decode c.code pc = .ok (.dreturn, 1))
    {Q : Option Value → Heap → List Loc → Prop} {ck sk : Nat} (hQ : Q (some (.double z)) T.heap locs) (hc : cells ≤ ck) (hs : slots ≤ sk) : OwnEnds p e below s Q ck sk (T.setTop (mkF m pc Ls (.double z :: rest))) :=
  own_out X hx hret hlocks rfl (Or.inr (Or.inr (Or.inl ⟨rfl, rfl, _, rfl⟩))) hd hQ hc hs
theorem own_retA (X : Stand p l e R s m args below meth c T locs cells slots) (hx : p.tables.exec = Jvm.exec) {pc : Nat} {Ls : Array Slot} {w : Value} {t : FieldType} {rest : List Value} (hret : meth.sig.returnType = some t) (hlocks : meth.locks = false) (ht : t.isReference = true) (hw : w.isRef = true) (hd : decode c.code pc = .ok (.areturn, 1))
    {Q : Option Value → Heap → List Loc → Prop} {ck sk : Nat} (hQ : Q (some w) T.heap locs) (hc : cells ≤ ck) (hs : slots ≤ sk) : OwnEnds p e below s Q ck sk (T.setTop (mkF m pc Ls (w :: rest))) :=
  own_out X hx hret hlocks (by cases t <;> first | rfl | cases ht) (Or.inr (Or.inr (Or.inr (Or.inr ⟨rfl, ht, hw⟩)))) hd hQ hc hs
theorem own_retN (X : Stand p l e R s m args below meth c T locs cells slots) (hx : p.tables.exec = Jvm.exec) {pc : Nat} {Ls : Array Slot} {z : Int32} {t : FieldType} {rest : List Value} (hret : meth.sig.returnType = some t) (hlocks : meth.locks = false) (ht : t = .boolean ∨ t = .byte ∨ t = .char ∨ t = .short) (hd : decode c.code pc = .ok (.ireturn, 1))
    {Q : Option Value → Heap → List Loc → Prop} {ck sk : Nat} (hQ : Q (some (.int (nar t z))) T.heap locs) (hc : cells ≤ ck) (hs : slots ≤ sk) : OwnEnds p e below s Q ck sk (T.setTop (mkF m pc Ls (.int z :: rest))) := by
  obtain ⟨fs, hr, hrun, hended, hW, hsame⟩ := X.leave (v := some (.int (nar t z))) (fun h => by rw [hret] at h; cases h) hlocks
  exact ⟨_, _, retN X hx hret ht hd hr, hrun, hended, _, _, rfl, hQ, ⟨_, rfl⟩, hW, hsame.mono hc hs⟩
theorem own_retV (X : Stand p l e R s m args below meth c T locs cells slots) (hx : p.tables.exec = Jvm.exec) {pc : Nat} {Ls : Array Slot} (hret : meth.sig.returnType = none) (hlocks : meth.locks = false) (hd : decode c.code pc = .ok (.return_, 1))
    {Q : Option Value → Heap → List Loc → Prop} {ck sk : Nat} (hQ : Q none T.heap locs) (hc : cells ≤ ck) (hs : slots ≤ sk) : OwnEnds p e below s Q ck sk (T.setTop (mkF m pc Ls [])) := by
  obtain ⟨fs, hr, hrun, hended, hW, hsame⟩ := X.leave (v := none) (fun _ => rfl) hlocks
  exact ⟨_, _, X.returnOut hx hret hd hr, hrun, hended, _, _, rfl, hQ, ⟨_, rfl⟩, hW, hsame.mono hc hs⟩
end OwnNew
end Jvm.RoadKit
@@BLOCK:NumsL.lean.txt@@
namespace Jvm.FP.Core.OwnFl
open Jvm.FP.Core
/-- the value in units of 2^-1074 -/
def zv (x : UInt64) : Int := zval b64 (val64 x)
theorem nn {x : UInt64} (h : DFin x) : Jvm.Free.Fl.NoNaN64 x := Jvm.Free.Fl.noNaN64_no.mpr h.notNaN
theorem one_pos : (0 : Int) < (one64 : Int) := by have := one64_pos; omega
theorem zmag_nat (d : Datum) : zmag b64 d = (zval b64 d).natAbs := (natAbs_signed _ _).symm
theorem fin_of {r : UInt64} (hn : val64 r ≠ .nan) (hz : zmag b64 (val64 r) < b64.tails * 2 ^ (b64.exps - 2)) : DFin r := by
  cases h : val64 r with
  | nan => exact absurd h hn
  | inf s => rw [h] at hz; exact absurd hz (Nat.lt_irrefl _)
  | fin s c q => exact ⟨s, c, q, h⟩
theorem rep_q {k : Nat} (hk : k ≤ 2045) : b64.qmin + (k : Int) ≤ b64.qmax := by
  have h3 := qmax_qmin b64
  have h4 : b64.emax = 1023 := by decide
  omega
/-- n * 2^k units is a double, for n of at most 53 digits -/
theorem rep (n : Int) (k : Nat) (hn : n.natAbs < 2 ^ 53) (hk : k ≤ 2045) : ∃ V, fits b64 V ∧ (∃ s c q, V = .fin s c q) ∧ zval b64 V = n * ((2 ^ k : Nat) : Int) := by
  obtain ⟨c', q', h1, h2⟩ := round_exact good_b64 (decide (n < 0)) (c := n.natAbs) (q := b64.qmin + k) hn (by omega) (rep_q hk)
  refine ⟨.fin (decide (n < 0)) c' q', ?_, ⟨_, _, _, rfl⟩, ?_⟩
  · rw [← h1]; exact round_fits good_b64 _
  · show signed (decide (n < 0)) (inUnits c' q' b64.qmin) = _
    rw [h2]
    unfold inUnits
    rw [signed_mul, show (b64.qmin + (k : Int) - b64.qmin).toNat = k by omega]
    congr 1
    unfold signed
    by_cases h5 : n < 0
    · rw [if_pos (decide_eq_true h5)]; omega
    · rw [if_neg (by simp [h5])]; omega
theorem fin_ne {V : Datum} (h : ∃ s c q, V = .fin s c q) : V ≠ .nan := by obtain ⟨s, c, q, rfl⟩ := h; exact Datum.noConfusion
theorem fin_to {r : UInt64} {V : Datum} (hn : dIsNaN r = false) (fV : fits b64 V) (hV : ∃ s c q, V = .fin s c q) (h : zv r = zval b64 V) : DFin r := by
  refine fin_of ((notNaN_iff r).mp hn) ?_
  rw [zmag_nat, show zval b64 (val64 r) = zval b64 V from h, ← zmag_nat]
  obtain ⟨s, c, q, rfl⟩ := hV
  exact zmag_lt_top good_b64 fV
theorem dadd_z {a b : UInt64} (ha : DFin a) (hb : DFin b) {V : Datum} (fV : fits b64 V) (hV : ∃ s c q, V = .fin s c q) (h : zv a + zv b = zval b64 V) : DFin (dadd a b) ∧ zv (dadd a b) = zv a + zv b := by
  have h1 := sum_le good_b64 ha hb (val64_fits a) (val64_fits b) fV (fin_ne hV) (Int.le_of_eq h)
  have h2 := sum_ge good_b64 ha hb (val64_fits a) (val64_fits b) fV (fin_ne hV) (Int.le_of_eq h.symm)
  rw [← val64_dadd] at h1 h2
  have h3 : zv (dadd a b) = zval b64 V := Int.le_antisymm h1 h2
  exact ⟨fin_to (dadd_out' ha hb.notNaN) fV hV h3, h3.trans h.symm⟩
theorem signed_prod (s t : Bool) (x y : Nat) : signed (s != t) (x * y) = signed s x * signed t y := by
  cases s <;> cases t <;> simp [signed, Int.natCast_mul, Int.neg_mul, Int.mul_neg]
theorem prod_z {a b : UInt64} (ha : DFin a) (hb : DFin b) : ∃ s n e, exactProduct (val64 a) (val64 b) = .fin s n e ∧ 2 * b64.qmin ≤ e ∧ signed s (inUnits n e (2 * b64.qmin)) = zv a * zv b := by
  obtain ⟨s, c, q, h1⟩ := ha
  obtain ⟨t, d, r, h2⟩ := hb
  have f1 := val64_fits a
  have f2 := val64_fits b
  rw [h1] at f1
  rw [h2] at f2
  obtain ⟨p1, p2, p3⟩ := product_units f1 f2
  refine ⟨_, _, _, by rw [h1, h2]; exact p1, p2, ?_⟩
  rw [p3]
  unfold zv zval
  rw [h1, h2]
  exact signed_prod s t _ _
theorem two_q : ((2 ^ (b64.qmin - 2 * b64.qmin).toNat : Nat) : Int) = (one64 : Int) := by
  rw [show b64.qmin - 2 * b64.qmin = -b64.qmin by omega, pow_qmin64]
theorem dmul_le {a b : UInt64} (ha : DFin a) (hb : DFin b) {V : Datum} (fV : fits b64 V) (hV : V ≠ .nan) (h : zv a * zv b ≤ zval b64 V * (one64 : Int)) : zv (dmul a b) ≤ zval b64 V := by
  obtain ⟨s, n, e, h1, h2, h3⟩ := prod_z ha hb
  unfold zv
  rw [val64_dmul, h1]
  refine zval_round_le good_b64 fV hV (e0 := 2 * b64.qmin) (by rw [qmin_b64]; decide) h2 ?_
  rw [h3, two_q]; exact h
theorem dmul_ge {a b : UInt64} (ha : DFin a) (hb : DFin b) {V : Datum} (fV : fits b64 V) (hV : V ≠ .nan) (h : zval b64 V * (one64 : Int) ≤ zv a * zv b) : zval b64 V ≤ zv (dmul a b) := by
  obtain ⟨s, n, e, h1, h2, h3⟩ := prod_z ha hb
  unfold zv
  rw [val64_dmul, h1]
  refine zval_round_ge good_b64 fV hV (e0 := 2 * b64.qmin) (by rw [qmin_b64]; decide) h2 ?_
  rw [h3, two_q]; exact h
theorem dmul_z {a b : UInt64} (ha : DFin a) (hb : DFin b) {V : Datum} (fV : fits b64 V) (hV : ∃ s c q, V = .fin s c q) (h : zv a * zv b = zval b64 V * (one64 : Int)) : DFin (dmul a b) ∧ zv (dmul a b) = zval b64 V := by
  have h3 : zv (dmul a b) = zval b64 V := Int.le_antisymm (dmul_le ha hb fV (fin_ne hV) (Int.le_of_eq h)) (dmul_ge ha hb fV (fin_ne hV) (Int.le_of_eq h.symm))
  exact ⟨fin_to (dmul_out ha hb) fV hV h3, h3⟩
theorem scale {x y α β γ δ : Nat} (h : α + δ = β + γ) : x * 2 ^ α ≤ y * 2 ^ β ↔ x * 2 ^ γ ≤ y * 2 ^ δ := by
  have p1 := Nat.two_pow_pos δ
  have p2 := Nat.two_pow_pos β
  have e1 : x * 2 ^ α * 2 ^ δ = x * 2 ^ γ * 2 ^ β := by rw [Nat.mul_assoc, Nat.mul_assoc, ← Nat.pow_add, ← Nat.pow_add, h, Nat.add_comm]
  have e2 : y * 2 ^ β * 2 ^ δ = y * 2 ^ δ * 2 ^ β := Nat.mul_right_comm ..
  constructor
  · intro k; exact Nat.le_of_mul_le_mul_right (by rw [← e1, ← e2]; exact Nat.mul_le_mul_right _ k) p2
  · intro k; exact Nat.le_of_mul_le_mul_right (by rw [e1, e2]; exact Nat.mul_le_mul_right _ k) p1
theorem scale' {x y α β γ δ : Nat} (h : α + δ = β + γ) : y * 2 ^ β ≤ x * 2 ^ α ↔ y * 2 ^ δ ≤ x * 2 ^ γ := scale (by omega)
theorem quot_z {a b : UInt64} (ha : DFin a) (hb : DFin b) (hz : zv b ≠ 0) : ∃ A B e, val64 (ddiv a b) = roundRatio b64 (sgn (val64 a) != sgn (val64 b)) A B e ∧ 0 < B ∧
    ∀ e0, e0 ≤ b64.qmin → e0 ≤ e → ∀ v, (inUnits A e e0 ≤ v * 2 ^ (b64.qmin - e0).toNat * B ↔ (zv a).natAbs * one64 ≤ v * (zv b).natAbs) ∧ (v * 2 ^ (b64.qmin - e0).toNat * B ≤ inUnits A e e0 ↔ v * (zv b).natAbs ≤ (zv a).natAbs * one64) := by
  obtain ⟨s, c, q, h1⟩ := ha
  obtain ⟨t, d, r, h2⟩ := hb
  have f1 := val64_fits a
  have f2 := val64_fits b
  rw [h1] at f1
  rw [h2] at f2
  have z1 : (zv a).natAbs = c * 2 ^ (q - b64.qmin).toNat := by unfold zv zval; rw [natAbs_signed, h1]; rfl
  have z2 : (zv b).natAbs = d * 2 ^ (r - b64.qmin).toNat := by unfold zv zval; rw [natAbs_signed, h2]; rfl
  have hd : d ≠ 0 := by
    intro hd
    rw [hd, Nat.zero_mul] at z2
    omega
  refine ⟨c, d, q - r, ?_, by omega, fun e0 k1 k2 v => ?_⟩
  · rw [val64_ddiv, h1, h2]
    show (if d = 0 then _ else roundRatio b64 (s != t) c d (q - r)) = _
    rw [if_neg hd]; rfl
  · have g1 := f1.2.1
    have g2 := f2.2.1
    have eA : (zv a).natAbs * one64 = c * 2 ^ ((q - b64.qmin).toNat + (-b64.qmin).toNat) := by rw [z1, ← pow_qmin64, Nat.mul_assoc, ← Nat.pow_add]
    have eB : v * (zv b).natAbs = v * d * 2 ^ (r - b64.qmin).toNat := by rw [z2, Nat.mul_assoc]
    have eC : v * 2 ^ (b64.qmin - e0).toNat * d = v * d * 2 ^ (b64.qmin - e0).toNat := Nat.mul_right_comm ..
    have hs : (q - r - e0).toNat + (r - b64.qmin).toNat = (b64.qmin - e0).toNat + ((q - b64.qmin).toNat + (-b64.qmin).toNat) := by
      have := qmin_b64
      omega
    rw [eA, eB, eC]
    exact ⟨scale hs, scale' hs⟩
theorem ddiv_sgn {a b : UInt64} (ha : DFin a) (hb : DFin b) (hz : zv b ≠ 0) : sgn (val64 (ddiv a b)) = (sgn (val64 a) != sgn (val64 b)) := by
  obtain ⟨A, B, e, h1, h2, h3⟩ := quot_z ha hb hz
  rw [h1, sgn_roundRatio]
theorem ddiv_le {a b : UInt64} (ha : DFin a) (hb : DFin b) (hz : zv b ≠ 0) {V : Datum} (fV : fits b64 V) (hV : V ≠ .nan) (h : (zv a).natAbs * one64 ≤ zmag b64 V * (zv b).natAbs) : zmag b64 (val64 (ddiv a b)) ≤ zmag b64 V := by
  obtain ⟨A, B, e, h1, h2, h3⟩ := quot_z ha hb hz
  rw [h1]
  exact zmag_roundRatio_le good_b64 h2 fV hV (Int.min_le_left _ _) (Int.min_le_right _ _) ((h3 (min b64.qmin e) (Int.min_le_left _ _) (Int.min_le_right _ _) _).1.mpr h)
theorem ddiv_ge {a b : UInt64} (ha : DFin a) (hb : DFin b) (hz : zv b ≠ 0) {V : Datum} (fV : fits b64 V) (h : zmag b64 V * (zv b).natAbs ≤ (zv a).natAbs * one64) : zmag b64 V ≤ zmag b64 (val64 (ddiv a b)) := by
  obtain ⟨A, B, e, h1, h2, h3⟩ := quot_z ha hb hz
  rw [h1]
  exact zmag_roundRatio_ge good_b64 h2 fV (Int.min_le_left _ _) (Int.min_le_right _ _) ((h3 (min b64.qmin e) (Int.min_le_left _ _) (Int.min_le_right _ _) _).2.mpr h)
theorem nz_of {b : UInt64} (hb : DFin b) (hz : zv b ≠ 0) : ¬ DZero b := by
  rintro ⟨s, q, h⟩
  apply hz
  unfold zv zval
  rw [h]
  show signed s (inUnits 0 q b64.qmin) = 0
  unfold inUnits
  rw [Nat.zero_mul, signed_zero]
theorem sign_help {sV sa sb : Bool} {m ma mb k : Nat} (hm : 0 < m) (hb : 0 < mb) (h : signed sV m * signed sb mb = signed sa ma * (k : Int)) : sV = (sa != sb) := by
  have h1 : 0 < (m : Int) * (mb : Int) := Int.mul_pos (by omega) (by omega)
  have h2 : 0 ≤ (ma : Int) * (k : Int) := Int.mul_nonneg (by omega) (by omega)
  cases sV <;> cases sa <;> cases sb <;> simp only [signed, if_true, Bool.false_eq_true, if_false, Int.neg_mul, Int.mul_neg, Int.neg_neg] at h <;> first | rfl | (exfalso; omega)
theorem ddiv_z {a b : UInt64} (ha : DFin a) (hb : DFin b) (hz : zv b ≠ 0) {V : Datum} (fV : fits b64 V) (hV : ∃ s c q, V = .fin s c q) (h : zval b64 V * zv b = zv a * (one64 : Int)) : DFin (ddiv a b) ∧ zv (ddiv a b) = zval b64 V := by
  have hn : zmag b64 V * (zv b).natAbs = (zv a).natAbs * one64 := by
    have := congrArg Int.natAbs h
    rw [Int.natAbs_mul, Int.natAbs_mul, Int.natAbs_natCast] at this
    rw [zmag_nat]; exact this
  have hm : zmag b64 (val64 (ddiv a b)) = zmag b64 V := Nat.le_antisymm (ddiv_le ha hb hz fV (fin_ne hV) (Nat.le_of_eq hn.symm)) (ddiv_ge ha hb hz fV (Nat.le_of_eq hn))
  have hq : zv (ddiv a b) = zval b64 V := by
    have e1 : zv (ddiv a b) = signed (sgn (val64 (ddiv a b))) (zmag b64 (val64 (ddiv a b))) := rfl
    rw [e1, hm, ddiv_sgn ha hb hz]
    by_cases h0 : zmag b64 V = 0
    · unfold zval; rw [h0, signed_zero, signed_zero]
    · have hb0 : 0 < zmag b64 (val64 b) := by rw [zmag_nat]; have : zv b ≠ 0 := hz; unfold zv at this; omega
      have := sign_help (sV := sgn V) (sa := sgn (val64 a)) (sb := sgn (val64 b)) (m := zmag b64 V) (ma := zmag b64 (val64 a)) (mb := zmag b64 (val64 b)) (k := one64) (by omega) hb0 h
      rw [← this]; rfl
  exact ⟨fin_to (ddiv_out ha.notNaN hb (nz_of hb hz)) fV hV hq, hq⟩
theorem i2d_z (x : Int32) : zv (i2d x) = x.toInt * (one64 : Int) := DInt_zval (i2d_int x)
theorem l2d_z {x : Int64} (h : x.toInt.natAbs ≤ 2 ^ 53) : zv (l2d x) = x.toInt * (one64 : Int) := DInt_zval (l2d_int h)
theorem cmp_z {a b : UInt64} (ha : DFin a) (hb : DFin b) : dcmp a b = some (compare (zv a) (zv b)) := dcmp_zval ha.ne_nan hb.ne_nan
theorem cmp_eq {a b : UInt64} (ha : DFin a) (hb : DFin b) (h : zv a = zv b) : dcmp a b = some .eq := by rw [cmp_z ha hb, (compare_eq_iff _ _).mpr h]
theorem cmp_lt {a b : UInt64} (ha : DFin a) (hb : DFin b) (h : zv a < zv b) : dcmp a b = some .lt := by rw [cmp_z ha hb, (compare_lt_iff _ _).mpr h]
theorem cmp_gt {a b : UInt64} (ha : DFin a) (hb : DFin b) (h : zv b < zv a) : dcmp a b = some .gt := by rw [cmp_z ha hb, (compare_gt_iff _ _).mpr h]
theorem i32b (x : Int32) : -2147483648 ≤ x.toInt ∧ x.toInt ≤ 2147483647 := by have h1 := Int32.toInt_lt x; have h2 := Int32.le_toInt x; omega
/-- half of the unit's weight -/
def half64 : Nat := 2 ^ 1073
theorem one_half : (one64 : Int) = 2 * (half64 : Int) := by
  have h : one64 = 2 * half64 := by unfold one64 half64; rw [show 1074 = 1073 + 1 from rfl, Nat.pow_succ, Nat.mul_comm]
  rw [h, Int.natCast_mul]; rfl
end Jvm.FP.Core.OwnFl
namespace Jvm.FP.Core.OwnFl
open Jvm.FP.Core
theorem near_scale {P Q R P' Q' R' S S' : Nat} (hS' : 0 < S') (hp : P * S = P' * S') (hq : Q * S = Q' * S') (hr : R * S = R' * S') (h : ((P : Int) - Q).natAbs ≤ ((P : Int) - R).natAbs) : ((P' : Int) - Q').natAbs ≤ ((P' : Int) - R').natAbs := by
  have m : ∀ x y k : Nat, ((x : Int) - y).natAbs * k = (((x * k : Nat) : Int) - ((y * k : Nat) : Int)).natAbs := fun x y k => by
    rw [Int.natCast_mul, Int.natCast_mul, ← Int.sub_mul, Int.natAbs_mul, Int.natAbs_natCast]
  refine Nat.le_of_mul_le_mul_right (c := S') ?_ hS'
  rw [m, m, ← hp, ← hq, ← hr, ← m, ← m]
  exact Nat.mul_le_mul_right _ h
/-- no double is nearer to the quotient than the rounded one -/
theorem quot_near {a b : UInt64} (ha : DFin a) (hb : DFin b) (hz : zv b ≠ 0) (hf : DFin (ddiv a b)) {V : Datum} (fV : fits b64 V) (hV : ∃ s c q, V = .fin s c q) :
    ((((zv a).natAbs * one64 : Nat) : Int) - ((zmag b64 (val64 (ddiv a b)) * (zv b).natAbs : Nat) : Int)).natAbs ≤ ((((zv a).natAbs * one64 : Nat) : Int) - ((zmag b64 V * (zv b).natAbs : Nat) : Int)).natAbs := by
  obtain ⟨s, c, q, h1⟩ := ha
  obtain ⟨t, d, r, h2⟩ := hb
  have f1 := val64_fits a
  have f2 := val64_fits b
  have f3 := val64_fits (ddiv a b)
  rw [h1] at f1
  rw [h2] at f2
  have z1 : (zv a).natAbs = c * 2 ^ (q - b64.qmin).toNat := by unfold zv zval; rw [natAbs_signed, h1]; rfl
  have z2 : (zv b).natAbs = d * 2 ^ (r - b64.qmin).toNat := by unfold zv zval; rw [natAbs_signed, h2]; rfl
  have hd : d ≠ 0 := by
    intro hd
    rw [hd, Nat.zero_mul] at z2
    omega
  have hR : val64 (ddiv a b) = roundRatio b64 (s != t) c d (q - r) := by
    rw [val64_ddiv, h1, h2]
    show (if d = 0 then _ else roundRatio b64 (s != t) c d (q - r)) = _
    rw [if_neg hd]
  obtain ⟨s3, c3, q3, h3⟩ := hf
  obtain ⟨s4, c4, q4, rfl⟩ := hV
  rw [h3] at f3 hR
  have k1 := Int.min_le_left b64.qmin (q - r)
  have k2 := Int.min_le_right b64.qmin (q - r)
  have hn := roundRatio_nearest good_b64 (by omega) hR.symm fV.1 fV.2.1 k1 k2
  generalize min b64.qmin (q - r) = e0 at k1 k2 hn
  unfold distance at hn
  rw [units_fin f3 k1, units_fin fV k1, ← Int.natCast_mul, ← Int.natCast_mul] at hn
  have g1 := f1.2.1
  have g2 := f2.2.1
  have hs : (q - r - e0).toNat + (r - b64.qmin).toNat = (b64.qmin - e0).toNat + ((q - b64.qmin).toNat + (-b64.qmin).toNat) := by
    have := qmin_b64
    omega
  rw [h3]
  refine near_scale (S := 2 ^ (r - b64.qmin).toNat) (S' := 2 ^ (b64.qmin - e0).toNat) (Nat.two_pow_pos _) ?_ ?_ ?_ hn
  · rw [z1, ← pow_qmin64]
    unfold inUnits
    rw [Nat.mul_assoc, Nat.mul_assoc, Nat.mul_assoc, ← Nat.pow_add, ← Nat.pow_add, ← Nat.pow_add, hs]
    congr 2; omega
  · rw [z2]; ac_rfl
  · rw [z2]; ac_rfl
theorem nat_round {A N z one half : Nat} (hN : 0 < N) (ho : one = 2 * half) (h1 : 0 < one) (hnear : 2 * (((A * one : Nat) : Int) - ((z * N : Nat) : Int)).natAbs < one) (hlow : ∀ K, 1 ≤ K → (2 * K - 1) * N ≤ 2 * A → (2 * K - 1) * half ≤ z) : (2 * z + one) / (2 * one) = (2 * A + N) / (2 * N) := by
  have hK1 : (2 * A + N) / (2 * N) * (2 * N) ≤ 2 * A + N := Nat.div_mul_le_self _ _
  have hK2 : 2 * A + N < ((2 * A + N) / (2 * N) + 1) * (2 * N) := by
    have := Nat.lt_mul_div_succ (2 * A + N) (show 0 < 2 * N by omega)
    rw [Nat.mul_comm ((2 * A + N) / (2 * N) + 1) (2 * N)]; exact this
  generalize (2 * A + N) / (2 * N) = K at *
  have e1 : K * (2 * N) = 2 * (K * N) := Nat.mul_left_comm ..
  have e2 : (K + 1) * (2 * N) = 2 * (K * N) + 2 * N := by rw [Nat.add_mul, e1, Nat.one_mul]
  rw [e1] at hK1
  rw [e2] at hK2
  refine Nat.div_eq_of_lt_le ?_ ?_
  · by_cases h0 : K = 0
    · subst h0; omega
    · have h2 := hlow K (by omega) (by
        rw [Nat.sub_mul, Nat.one_mul, Nat.mul_assoc]; omega)
      rw [Nat.sub_mul, Nat.one_mul, Nat.mul_assoc] at h2
      have e3 : K * (2 * one) = 4 * (K * half) := by rw [ho, ← Nat.mul_assoc 2 2 half, Nat.mul_left_comm]
      rw [e3, ho]; omega
  · have h3 : 2 * (z * N) < (2 * A + 1) * one := by
      rw [Nat.add_mul, Nat.one_mul, Nat.mul_assoc]; omega
    have h4 : (2 * A + 1) * one ≤ ((2 * K + 1) * N) * one := Nat.mul_le_mul_right _ (by rw [Nat.add_mul, Nat.one_mul, Nat.mul_assoc]; omega)
    have h5 : (2 * z) * N < ((2 * K + 1) * one) * N := by
      rw [Nat.mul_assoc 2 z N, Nat.mul_right_comm (2 * K + 1) one N]; omega
    have h6 := Nat.lt_of_mul_lt_mul_right h5
    rw [Nat.add_mul, Nat.one_mul, Nat.mul_assoc] at h6
    have e4 : (K + 1) * (2 * one) = 2 * (K * one) + 2 * one := by rw [Nat.add_mul, Nat.one_mul, Nat.mul_left_comm]
    rw [e4]; omega
theorem one_eq : one64 = 2 * half64 := by unfold one64 half64; rw [show 1074 = 1073 + 1 from rfl, Nat.pow_succ, Nat.mul_comm]
theorem sgn_l2d {x : Int64} (h : 0 ≤ x.toInt) : sgn (val64 (l2d x)) = false := by
  obtain ⟨c, q, h1⟩ := l2d_shape x
  rw [h1]
  show decide (x.toInt < 0) = false
  simp; omega
/-- the rounded quotient of two whole numbers, rounded to a whole number, is the quotient rounded -/
theorem div_round {x y : Int64} (hx0 : 0 ≤ x.toInt) (hx : 2 * x.toInt < 9007199254740992) (hy0 : 0 < y.toInt) (hy : y.toInt < 9007199254740992) :
    ∃ z : Nat, DFin (ddiv (l2d x) (l2d y)) ∧ sgn (val64 (ddiv (l2d x) (l2d y))) = false ∧ zv (ddiv (l2d x) (l2d y)) = (z : Int) ∧ z ≤ x.toInt.toNat * one64 ∧ (2 * z + one64) / (2 * one64) = (2 * x.toInt.toNat + y.toInt.toNat) / (2 * y.toInt.toNat) := by
  have za0 := l2d_z (x := x) (by omega)
  have zb0 := l2d_z (x := y) (by omega)
  have hA : x.toInt = (x.toInt.toNat : Int) := by omega
  have hB : y.toInt = (y.toInt.toNat : Int) := by omega
  rw [hA] at za0
  rw [hB] at zb0
  have hA53 : 2 * x.toInt.toNat < 9007199254740992 := by omega
  have hN53 : y.toInt.toNat < 9007199254740992 := by omega
  have hN : 0 < y.toInt.toNat := by omega
  have ss : sgn (val64 (ddiv (l2d x) (l2d y))) = false := by
    by_cases hz : zv (l2d y) = 0
    · exfalso; rw [zb0] at hz
      have := one64_pos
      rcases Int.mul_eq_zero.mp hz with h | h <;> omega
    · rw [ddiv_sgn (l2d_fin x) (l2d_fin y) hz, sgn_l2d hx0, sgn_l2d (by omega)]; rfl
  generalize x.toInt.toNat = A at *
  generalize y.toInt.toNat = N at *
  have o := one64_pos
  have na : (zv (l2d x)).natAbs = A * one64 := by rw [za0, Int.natAbs_mul, Int.natAbs_natCast, Int.natAbs_natCast]
  have nb : (zv (l2d y)).natAbs = N * one64 := by rw [zb0, Int.natAbs_mul, Int.natAbs_natCast, Int.natAbs_natCast]
  have hz : zv (l2d y) ≠ 0 := by
    intro h
    rw [h] at nb
    have := Nat.mul_pos hN o
    omega
  have eo : ((2 ^ 1074 : Nat) : Int) = (one64 : Int) := rfl
  have eh : ((2 ^ 1073 : Nat) : Int) = (half64 : Int) := rfl
  have hfin : DFin (ddiv (l2d x) (l2d y)) ∧ zmag b64 (val64 (ddiv (l2d x) (l2d y))) ≤ A * one64 := by
    obtain ⟨V, fV, hV, eV⟩ := rep (A : Int) 1074 (by omega) (by decide)
    rw [eo] at eV
    have mV : zmag b64 V = A * one64 := by rw [zmag_nat, eV, Int.natAbs_mul, Int.natAbs_natCast, Int.natAbs_natCast]
    have hle := ddiv_le (l2d_fin x) (l2d_fin y) hz fV (fin_ne hV) (by
      rw [na, nb, mV]
      calc A * one64 * one64 ≤ A * one64 * (N * one64) := Nat.mul_le_mul_left _ (Nat.le_mul_of_pos_left _ hN)
        _ = _ := rfl)
    refine ⟨fin_of ((notNaN_iff _).mp (ddiv_out (l2d_fin x).notNaN (l2d_fin y) (nz_of (l2d_fin y) hz))) (Nat.lt_of_le_of_lt hle ?_), by rw [← mV]; exact hle⟩
    obtain ⟨s, c, q, rfl⟩ := hV
    exact zmag_lt_top good_b64 fV
  have hzv : zv (ddiv (l2d x) (l2d y)) = ((zmag b64 (val64 (ddiv (l2d x) (l2d y))) : Nat) : Int) := by
    unfold zv zval; rw [ss]; rfl
  refine ⟨zmag b64 (val64 (ddiv (l2d x) (l2d y))), hfin.1, ss, hzv, hfin.2, ?_⟩
  refine nat_round hN one_eq o ?_ ?_
  · have i1 : 2 ^ N.log2 ≤ N := Nat.log2_self_le (by omega)
    have i2 : N < 2 ^ (N.log2 + 1) := Nat.lt_log2_self
    have i3 : N.log2 < 53 := (Nat.pow_lt_pow_iff_right (by decide : 1 < 2)).mp (Nat.lt_of_le_of_lt i1 (by show N < 9007199254740992; exact hN53))
    have i4 : 2 ^ (N.log2 + 1) ≤ 2 * N := by rw [Nat.pow_succ]; omega
    have i5 : one64 = 2 ^ (N.log2 + 1) * 2 ^ (1074 - (N.log2 + 1)) := by unfold one64; rw [← Nat.pow_add]; congr 1; omega
    obtain ⟨w1, w2, -⟩ := nearest_spec (A * 2 ^ (N.log2 + 1)) N hN
    have w3 : nearest (A * 2 ^ (N.log2 + 1)) N ≤ 2 * A := nearest_le hN (by
      calc A * 2 ^ (N.log2 + 1) ≤ A * (2 * N) := Nat.mul_le_mul_left _ i4
        _ = 2 * A * N := by rw [Nat.mul_left_comm, Nat.mul_assoc])
    generalize nearest (A * 2 ^ (N.log2 + 1)) N = w at *
    obtain ⟨V, fV, hV, eV⟩ := rep (w : Int) (1074 - (N.log2 + 1)) (by omega) (by omega)
    generalize hP : 2 ^ (1074 - (N.log2 + 1)) = P at *
    generalize 2 ^ (N.log2 + 1) = Tw at *
    have mV : zmag b64 V = w * P := by rw [zmag_nat, eV, Int.natAbs_mul, Int.natAbs_natCast, Int.natAbs_natCast]
    have hn := quot_near (l2d_fin x) (l2d_fin y) hz hfin.1 fV hV
    rw [na, nb, mV] at hn
    generalize zmag b64 (val64 (ddiv (l2d x) (l2d y))) = z at *
    have hn2 := near_scale (S := 1) (S' := one64) (P' := A * one64) (Q' := z * N) (R' := w * P * N) o (Nat.mul_one _) (by rw [Nat.mul_one, Nat.mul_assoc]) (by rw [Nat.mul_one, ← Nat.mul_assoc]) hn
    have e1 : ((A * one64 : Nat) : Int) - ((w * P * N : Nat) : Int) = (((A * Tw : Nat) : Int) - ((w * N : Nat) : Int)) * (P : Int) := by
      rw [i5, Int.sub_mul, ← Int.natCast_mul, ← Int.natCast_mul, Nat.mul_assoc A Tw P, Nat.mul_right_comm w P N]
    rw [e1, Int.natAbs_mul, Int.natAbs_natCast] at hn2
    have h7 : 2 * (((A * Tw : Nat) : Int) - ((w * N : Nat) : Int)).natAbs ≤ N := by
      rw [Nat.add_mul, Nat.one_mul, Nat.mul_assoc] at w1
      rw [Nat.mul_assoc] at w2
      generalize A * Tw = u at *
      generalize w * N = v at *
      omega
    have h8 := Nat.mul_le_mul_right P h7
    have hPp : 0 < P := by rw [← hP]; exact Nat.two_pow_pos _
    have h9 : N * P < one64 := by rw [i5]; exact Nat.mul_lt_mul_of_pos_right i2 hPp
    rw [Nat.mul_assoc] at h8
    omega
  · intro K hK hle
    obtain ⟨V, fV, hV, eV⟩ := rep ((2 * K - 1 : Nat) : Int) 1073 (by
      have : 2 * K - 1 ≤ (2 * K - 1) * N := Nat.le_mul_of_pos_right _ hN
      rw [Int.natAbs_natCast]; show 2 * K - 1 < 9007199254740992; omega) (by decide)
    rw [eh] at eV
    have mV : zmag b64 V = (2 * K - 1) * half64 := by rw [zmag_nat, eV, Int.natAbs_mul, Int.natAbs_natCast, Int.natAbs_natCast]
    rw [← mV]
    refine ddiv_ge (l2d_fin x) (l2d_fin y) hz fV ?_
    rw [na, nb, mV]
    have oe := one_eq
    have hle2 := Nat.mul_le_mul_right (half64 * one64) hle
    generalize half64 = H at oe hle2 ⊢
    generalize one64 = O at oe hle2 ⊢
    calc (2 * K - 1) * H * (N * O) = (2 * K - 1) * N * (H * O) := by ac_rfl
      _ ≤ 2 * A * (H * O) := hle2
      _ = A * (2 * H) * O := by ac_rfl
      _ = A * O * O := by rw [← oe]
/-- what Math.round's rows reckon -/
def rnd (x : UInt64) : Int64 :=
  if ((1074 : Int64) - ((x.toInt64 &&& (9218868437227405312 : Int64)) >>> ((52 : Int32) &&& 0x3f).toInt64)) &&& (-64 : Int64) = 0 then
    (((((x.toInt64 &&& (4503599627370495 : Int64)) ||| (4503599627370496 : Int64)) >>> (((1074 : Int64) - ((x.toInt64 &&& (9218868437227405312 : Int64)) >>> ((52 : Int32) &&& 0x3f).toInt64)).toInt32 &&& 0x3f).toInt64) + (1 : Int64)) >>> ((1 : Int32) &&& 0x3f).toInt64)
  else d2l x
end Jvm.FP.Core.OwnFl
namespace Jvm.FP.Core.OwnFl
open Jvm.FP.Core Jvm.Kit
theorem or52 {a : Int64} (h0 : 0 ≤ a.toInt) (h1 : a.toInt < 4503599627370496) : (a ||| (4503599627370496 : Int64)).toInt = a.toInt + 4503599627370496 := by
  have e1 : a.toInt = a.toBitVec.toInt := rfl
  have e2 := BitVec.toInt_eq_toNat_cond a.toBitVec
  have hlt : a.toBitVec.toNat < 2 ^ 64 := a.toBitVec.isLt
  have e3 : a.toInt = (a.toBitVec.toNat : Int) := by
    rw [e1, e2]
    split
    · rfl
    · exfalso; rw [e1, e2, if_neg (by assumption)] at h0; omega
  have e4 : (a ||| (4503599627370496 : Int64)).toBitVec.toNat = 4503599627370496 + a.toBitVec.toNat := by
    rw [Int64.toBitVec_or, BitVec.toNat_or]
    have h2 : a.toBitVec.toNat < 2 ^ 52 := by omega
    have h3 := Nat.two_pow_add_eq_or_of_lt h2 1
    rw [Nat.or_comm]
    exact h3.symm
  show (a ||| (4503599627370496 : Int64)).toBitVec.toInt = _
  rw [BitVec.toInt_eq_toNat_of_lt (by rw [e4]; omega), e4]
  omega
set_option maxRecDepth 100000 in
theorem mask64 : ∀ E : Fin 2048, decide ((Int64.ofInt (1074 - (E.val : Int))) &&& (-64 : Int64) = 0) = decide (1011 ≤ E.val ∧ E.val ≤ 1074) := by decide +kernel
set_option maxRecDepth 100000 in
theorem amt64 : ∀ s : Fin 64, ((((Int64.ofInt (s.val : Int)).toInt32 &&& (0x3f : Int32)).toInt64).toBitVec.smod 64).toNat = s.val := by decide +kernel
theorem toInt_u64 {x : UInt64} (h : x.toNat < 9223372036854775808) : x.toInt64.toInt = (x.toNat : Int) := by
  show x.toBitVec.toInt = _
  rw [BitVec.toInt_eq_toNat_of_lt (by show 2 * x.toNat < 2 ^ 64; omega)]
  rfl
theorem exp_bits {x : UInt64} (h : x.toNat < 9223372036854775808) : ((x.toInt64 &&& (9218868437227405312 : Int64)) >>> ((52 : Int32) &&& 0x3f).toInt64).toInt = ((x.toNat / 4503599627370496 : Nat) : Int) := by
  rw [Int64.shiftRight_and, show (9218868437227405312 : Int64) >>> ((52 : Int32) &&& 0x3f).toInt64 = 2047 by decide +kernel, i64_mask _ 2047 (k := 11) (by decide) (by decide), i64_shr _ _ (k := 52) (by decide), toInt_u64 h]
  omega
theorem shift_is {x : UInt64} (h : x.toNat < 9223372036854775808) : (1074 : Int64) - ((x.toInt64 &&& (9218868437227405312 : Int64)) >>> ((52 : Int32) &&& 0x3f).toInt64) = Int64.ofInt (1074 - ((x.toNat / 4503599627370496 : Nat) : Int)) := by
  apply Int64.toInt_inj.mp
  have e := exp_bits h
  have hE : x.toNat / 4503599627370496 < 2048 := by omega
  rw [i64_sub (by rw [e]; show -2 ^ 63 ≤ (1074 : Int) - _; omega) (by rw [e]; show (1074 : Int) - _ < 2 ^ 63; omega), e, Int64.toInt_ofInt_of_le (by omega) (by omega)]
  rfl
/-- Math.round's rows on a number that isn't negative: the floor of x + 1/2 -/
theorem rnd_spec {x : UInt64} (hf : DFin x) (hs : sgn (val64 x) = false) {z : Nat} (hz : zv x = (z : Int)) (hb : z < 4503599627370496 * one64) :
    ¬ (x.toInt64 < 0) ∧ (rnd x).toInt = (((2 * z + one64) / (2 * one64) : Nat) : Int) := by
  have hsg := sgn_bits hf.ne_nan
  rw [hs] at hsg
  have h63 : x.toNat < 9223372036854775808 := by
    have := of_decide_eq_false hsg.symm
    omega
  have hfb := (fin_bits x).mp hf
  have hm : x.toNat % 2 ^ 63 = x.toNat := Nat.mod_eq_of_lt (by omega)
  rw [hm] at hfb
  have hzm : z = unitsOf b64 x.toNat := by
    have h1 := zmag_bits hf.ne_nan
    rw [hm] at h1
    rw [← h1, zmag_nat]
    unfold zv at hz
    rw [hz]; rfl
  have o := one64_pos
  refine ⟨?_, ?_⟩
  · rw [Int64.lt_iff_toInt_lt, toInt_u64 h63]
    show ¬ (x.toNat : Int) < 0
    omega
  · have hE : x.toNat / 4503599627370496 < 2048 := by omega
    have hd := mask64 ⟨x.toNat / 4503599627370496, hE⟩
    unfold rnd
    rw [shift_is h63]
    by_cases hr : 1011 ≤ x.toNat / 4503599627370496 ∧ x.toNat / 4503599627370496 ≤ 1074
    · have hd1 : Int64.ofInt (1074 - ((x.toNat / 4503599627370496 : Nat) : Int)) &&& (-64 : Int64) = 0 := of_decide_eq_true (hd.trans (decide_eq_true hr))
      rw [if_pos hd1]
      have hT : (x.toInt64 &&& (4503599627370495 : Int64)).toInt = ((x.toNat % 4503599627370496 : Nat) : Int) := by
        rw [i64_mask _ 4503599627370495 (k := 52) (by decide) (by decide), toInt_u64 h63]; omega
      have hTl : x.toNat % 4503599627370496 < 4503599627370496 := Nat.mod_lt _ (by decide)
      have hM := or52 (a := x.toInt64 &&& (4503599627370495 : Int64)) (by rw [hT]; omega) (by rw [hT]; omega)
      rw [hT] at hM
      have hsv : (1074 : Int) - ((x.toNat / 4503599627370496 : Nat) : Int) = ((1074 - x.toNat / 4503599627370496 : Nat) : Int) := by omega
      have hs64 : 1074 - x.toNat / 4503599627370496 < 64 := by omega
      have ha := amt64 ⟨1074 - x.toNat / 4503599627370496, hs64⟩
      rw [hsv]
      have hq := i64_shr ((x.toInt64 &&& (4503599627370495 : Int64)) ||| (4503599627370496 : Int64)) (((Int64.ofInt ((1074 - x.toNat / 4503599627370496 : Nat) : Int)).toInt32 &&& (0x3f : Int32)).toInt64) ha
      rw [hM] at hq
      have hzu : z = (4503599627370496 + x.toNat % 4503599627370496) * 2 ^ (x.toNat / 4503599627370496 - 1) := by
        rw [hzm]; unfold unitsOf
        rw [tails_b64]
        rw [if_neg (by show ¬ x.toNat < 4503599627370496; omega)]
      generalize hEE : x.toNat / 4503599627370496 = E at *
      generalize x.toNat % 4503599627370496 = T at *
      have hcast : ((T : Int) + 4503599627370496) / 2 ^ (1074 - E) = (((4503599627370496 + T) / 2 ^ (1074 - E) : Nat) : Int) := by
        rw [Int.natCast_ediv, Int.natCast_pow, Int.natCast_add, Int.add_comm]; rfl
      have hqle : (4503599627370496 + T) / 2 ^ (1074 - E) ≤ 4503599627370496 + T := Nat.div_le_self _ _
      have hfin : (2 * z + one64) / (2 * one64) = ((4503599627370496 + T) / 2 ^ (1074 - E) + 1) / 2 := by
        have e1 : 2 * z = (4503599627370496 + T) * 2 ^ E := by
          rw [hzu, Nat.mul_left_comm]
          congr 1
          rw [Nat.mul_comm, ← Nat.pow_succ]
          congr 1; omega
        have e2 : one64 = 2 ^ (1074 - E) * 2 ^ E := by unfold one64; rw [← Nat.pow_add]; congr 1; omega
        have p1 := Nat.two_pow_pos E
        have p2 := Nat.two_pow_pos (1074 - E)
        rw [e1, e2]
        generalize 2 ^ E = a at *
        generalize 2 ^ (1074 - E) = b at *
        rw [← Nat.add_mul, show 2 * (b * a) = b * 2 * a by ac_rfl, Nat.mul_div_mul_right _ _ p1, ← Nat.div_div_eq_div_mul, Nat.add_div_right _ p2]
      rw [hcast] at hq
      generalize (4503599627370496 + T) / 2 ^ (1074 - E) = Qv at *
      show Int64.toInt _ = _
      rw [i64_shr _ _ (k := 1) (by decide), i64_add (by rw [hq]; show -2 ^ 63 ≤ (Qv : Int) + (1 : Int); omega) (by rw [hq]; show (Qv : Int) + (1 : Int) < 2 ^ 63; omega), hq]
      rw [hfin]
      show ((Qv : Int) + (1 : Int)) / 2 ^ 1 = _
      omega
    · have hd1 : ¬ (Int64.ofInt (1074 - ((x.toNat / 4503599627370496 : Nat) : Int)) &&& (-64 : Int64) = 0) := of_decide_eq_false (hd.trans (decide_eq_false hr))
      rw [if_neg hd1, d2l_val hf.ne_nan, hs]
      have hzz : zmag b64 (val64 x) = z := by
        rw [zmag_nat]; unfold zv at hz; rw [hz]; rfl
      rw [hzz]
      have hsmall : 2 * z < one64 := by
        by_cases h11 : x.toNat / 4503599627370496 < 1011
        · have h1 := units_lt_start (f := b64) (m := x.toNat) (K := 1011) (by rw [tails_b64]; show x.toNat < 1011 * 4503599627370496; omega)
          rw [← hzm, tails_b64] at h1
          have h2 : 2 * (2 ^ 52 * 2 ^ (1011 - 1)) < one64 := by decide +kernel
          omega
        · exfalso
          have h1 : unitsOf b64 (1075 * b64.tails) ≤ unitsOf b64 x.toNat := unitsOf_le_iff.mpr (by rw [tails_b64]; show 1075 * 4503599627370496 ≤ x.toNat; omega)
          rw [unitsOf_start (by decide), ← hzm, tails_b64] at h1
          have h2 : 2 ^ 52 * 2 ^ (1075 - 1) = 4503599627370496 * one64 := by decide +kernel
          omega
      have h3 : z / one64 = 0 := Nat.div_eq_of_lt (by omega)
      have h4 : (2 * z + one64) / (2 * one64) = 0 := Nat.div_eq_of_lt (by omega)
      rw [h3, h4]
      rfl
end Jvm.FP.Core.OwnFl
namespace Jvm.Pilot.@@N@@
open Jvm Jvm.ClassFile Sem Op Lib Jvm.Free Jvm.Stand Jvm.LawKit Jvm.RoadKit Bundle Jvm.Pilot.@@N@@.Jvm.D
theorem pd_0 : parseMethodDescriptor "(D)J" = some ⟨[.double], some .long⟩ := by decide +kernel
theorem pd_1 : parseMethodDescriptor "(JJI)V" = some ⟨[.long, .long, .int], none⟩ := by decide +kernel
theorem pd_2 : parseMethodDescriptor "()J" = some ⟨[], some .long⟩ := by decide +kernel
theorem pn_0 : plainName "com/example/idle_harbor/idleharbor/perf/TimedRun$Tally" = true := by first | (simp [plainName, overriddenIn]; done) | decide +kernel
theorem pn_1 : plainName "com/example/idle_harbor/idleharbor/perf/TallyPerSecondPinLaw" = true := by first | (simp [plainName, overriddenIn]; done) | decide +kernel
theorem own_lc0 {x y : Int64} (h : x = y) : lcmpW x y = 0 := by
  subst h
  unfold lcmpW
  rw [if_neg (by rw [gt_iff_lt, Int64.lt_iff_toInt_lt]; omega), if_pos rfl]
theorem own_lc1 {x y : Int64} (h : ¬ (x = y)) : ¬ (lcmpW x y = 0) := by
  unfold lcmpW
  rw [if_neg h]
  split <;> decide
theorem own_lcge {x y : Int64} (h : ¬ (x < y)) : ¬ (lcmpW x y < 0) := by
  unfold lcmpW
  split
  · decide
  · rename_i h1
    have : x = y := by
      apply Int64.toInt_inj.mp
      rw [gt_iff_lt, Int64.lt_iff_toInt_lt] at h1
      rw [Int64.lt_iff_toInt_lt] at h
      omega
    rw [if_pos this]; decide
theorem own_lclt {x y : Int64} (h : x < y) : lcmpW x y < 0 := by
  rw [Int64.lt_iff_toInt_lt] at h
  unfold lcmpW
  rw [if_neg (by rw [gt_iff_lt, Int64.lt_iff_toInt_lt]; omega), if_neg (by intro e; rw [e] at h; omega)]; decide
theorem own_lcgt {x y : Int64} (h : y < x) : (0 : Int32) < lcmpW x y := by
  unfold lcmpW; rw [if_pos h]; decide
theorem own_lcle {x y : Int64} (h : ¬ (y < x)) : ¬ ((0 : Int32) < lcmpW x y) := by
  unfold lcmpW; rw [if_neg h]; split <;> decide
theorem own_nz {n : Int64} (h0 : 0 < n.toInt) : n ≠ 0 := by
  intro h
  rw [h] at h0
  exact absurd h0 (by decide)
theorem own_rng {q1 rq : Int64} (h1 : rq = q1 &&& (4194303 : Int64)) : 0 ≤ rq.toInt ∧ 2 * (rq.toInt * 1000000000) < 9007199254740992 := by
  have e1 : rq.toInt = q1.toInt % 2 ^ 22 := by rw [h1]; exact Jvm.Kit.i64_mask q1 4194303 (by decide) (by decide)
  omega
theorem own_bvn {a : Int64} (h0 : 0 ≤ a.toInt) : a.toInt = (a.toUInt64.toNat : Int) := by
  have e1 : a.toInt = a.toBitVec.toInt := rfl
  have e2 := BitVec.toInt_eq_toNat_cond a.toBitVec
  have hlt : a.toBitVec.toNat < 2 ^ 64 := a.toBitVec.isLt
  show a.toInt = (a.toBitVec.toNat : Int)
  rw [e1, e2]
  split
  · rfl
  · exfalso; rw [e1, e2, if_neg (by assumption)] at h0; omega
theorem own_rng2 {q2 : Int64} {p3 : Int32} (hz : ¬ ((((q2 &&& (9007199254740991 : Int64)).toUInt64 >>> ((p3 &&& (63 : Int32)) &&& 0x3f).toInt64.toUInt64).toInt64) = 0)) :
    0 < (((q2 &&& (9007199254740991 : Int64)).toUInt64 >>> ((p3 &&& (63 : Int32)) &&& 0x3f).toInt64.toUInt64).toInt64).toInt ∧ (((q2 &&& (9007199254740991 : Int64)).toUInt64 >>> ((p3 &&& (63 : Int32)) &&& 0x3f).toInt64.toUInt64).toInt64).toInt < 9007199254740992 := by
  have e1 : (q2 &&& (9007199254740991 : Int64)).toInt = q2.toInt % 2 ^ 53 := Jvm.Kit.i64_mask q2 9007199254740991 (by decide) (by decide)
  have e2 : ((p3 &&& (63 : Int32)) &&& 0x3f).toInt = p3.toInt % 2 ^ 6 % 2 ^ 6 := by rw [Jvm.Kit.i32_mask _ 63 (k := 6) (by decide) (by decide), Jvm.Kit.i32_mask p3 63 (k := 6) (by decide) (by decide)]
  have e3 : ((p3 &&& (63 : Int32)) &&& 0x3f).toInt64.toInt = p3.toInt % 2 ^ 6 % 2 ^ 6 := by rw [Jvm.Kit.i64_of_i32, e2]
  have e4 := own_bvn (a := ((p3 &&& (63 : Int32)) &&& 0x3f).toInt64) (by rw [e3]; omega)
  have e5 := Jvm.Kit.i64_lushr (x := q2 &&& (9007199254740991 : Int64)) (Jvm.Kit.i64_nonneg.mpr (by rw [e1]; omega)) (n := ((p3 &&& (63 : Int32)) &&& 0x3f).toInt64.toUInt64) rfl (by omega)
  have hp : (0 : Int) < 2 ^ ((p3 &&& (63 : Int32)) &&& 0x3f).toInt64.toUInt64.toNat := Int.pow_pos (by decide)
  have h0 : 0 ≤ (q2 &&& (9007199254740991 : Int64)).toInt / 2 ^ ((p3 &&& (63 : Int32)) &&& 0x3f).toInt64.toUInt64.toNat := Int.ediv_nonneg (by rw [e1]; omega) (Int.le_of_lt hp)
  have h1 : (q2 &&& (9007199254740991 : Int64)).toInt / 2 ^ ((p3 &&& (63 : Int32)) &&& 0x3f).toInt64.toUInt64.toNat ≤ (q2 &&& (9007199254740991 : Int64)).toInt := Int.ediv_le_self _ (by rw [e1]; omega)
  have hne : (((q2 &&& (9007199254740991 : Int64)).toUInt64 >>> ((p3 &&& (63 : Int32)) &&& 0x3f).toInt64.toUInt64).toInt64).toInt ≠ 0 := fun h => hz (Int64.toInt_inj.mp (h.trans (by decide)))
  rw [e5] at hne ⊢
  omega
theorem own_mulI {q2 : Int64} (hq0 : 0 ≤ q2.toInt) (hq1 : 2 * (q2.toInt * 1000000000) < 9007199254740992) : (q2 * (1000000000 : Int64)).toInt = q2.toInt * 1000000000 := by
  have t1 : (1000000000 : Int64).toInt = 1000000000 := by decide
  rw [Jvm.Kit.i64_mul (by rw [t1]; omega) (by rw [t1]; omega), t1]
theorem own_mul {q2 : Int64} (hq0 : 0 ≤ q2.toInt) (hq1 : 2 * (q2.toInt * 1000000000) < 9007199254740992) : Jvm.Free.Fl.NoNaN64 (FP.dmul (FP.l2d q2) 4741671816366391296) ∧ FP.dmul (FP.l2d q2) 4741671816366391296 = FP.l2d (q2 * (1000000000 : Int64)) := by
  have e1 : (4741671816366391296 : UInt64) = FP.l2d (1000000000 : Int64) := by decide +kernel
  have t1 : (1000000000 : Int64).toInt = 1000000000 := by decide
  have e2 : FP.dmul (FP.l2d q2) 4741671816366391296 = FP.l2d (q2 * (1000000000 : Int64)) := by
    rw [e1]
    exact dmul_k (A := 4503599) (B := 1000000000) (by omega) (by omega) (by rw [t1]; decide) (by rw [t1]; decide) (by decide) (by decide) (by decide) (fun h => absurd h.2 (by decide)) (fun h => absurd h.1 (by decide))
  exact ⟨by rw [e2]; exact (Jvm.Free.Fl.l2d_fin _).noNaN, e2⟩
theorem own_div {q2 q3 : Int64} (hq0 : 0 ≤ q2.toInt) (hq1 : 2 * (q2.toInt * 1000000000) < 9007199254740992) (hn0 : 0 < q3.toInt) (hn1 : q3.toInt < 9007199254740992) :
    Jvm.Free.Fl.NoNaN64 (FP.ddiv (FP.l2d (q2 * (1000000000 : Int64))) (FP.l2d q3)) ∧ ¬ ((FP.ddiv (FP.l2d (q2 * (1000000000 : Int64))) (FP.l2d q3)).toInt64 < 0) ∧
      (Jvm.FP.Core.OwnFl.rnd (FP.ddiv (FP.l2d (q2 * (1000000000 : Int64))) (FP.l2d q3))).toInt = (((2 * (q2.toInt * 1000000000).toNat + q3.toInt.toNat) / (2 * q3.toInt.toNat) : Nat) : Int) := by
  have e := own_mulI hq0 hq1
  obtain ⟨z, f, s, hz, hle, hr⟩ := Jvm.FP.Core.OwnFl.div_round (x := q2 * (1000000000 : Int64)) (y := q3) (by rw [e]; omega) (by rw [e]; omega) hn0 hn1
  have hb : z < 4503599627370496 * Jvm.FP.Core.one64 := Nat.lt_of_le_of_lt hle (Nat.mul_lt_mul_of_pos_right (by rw [e]; omega) Jvm.FP.Core.one64_pos)
  obtain ⟨h1, h2⟩ := Jvm.FP.Core.OwnFl.rnd_spec f s hz hb
  exact ⟨Jvm.FP.Core.OwnFl.nn f, h1, by rw [← e, ← hr]; exact h2⟩
theorem own_natk {A N : Nat} (hN : 0 < N) : (2 * A + N) / (2 * N) = if 2 * (A % N) < N then A / N else A / N + 1 := by
  have h1 := Nat.div_add_mod A N
  have h2 := Nat.mod_lt A hN
  generalize A / N = q at *
  generalize A % N = r at *
  have e1 : q * (2 * N) = 2 * (N * q) := by rw [Nat.mul_left_comm, Nat.mul_comm q N]
  split
  · refine Nat.div_eq_of_lt_le (by rw [e1]; omega) (by rw [Nat.add_mul, Nat.one_mul, e1]; omega)
  · refine Nat.div_eq_of_lt_le (by rw [Nat.add_mul, Nat.one_mul, e1]; omega) (by rw [Nat.add_mul, Nat.add_mul, Nat.one_mul, e1]; omega)
theorem own_parts {rq nq : Int64} (hq0 : 0 ≤ rq.toInt) (hq1 : 2 * (rq.toInt * 1000000000) < 9007199254740992) (hn0 : 0 < nq.toInt) (hn1 : nq.toInt < 9007199254740992) :
    ((rq * (1000000000 : Int64)) / nq).toInt = (((rq.toInt * 1000000000).toNat / nq.toInt.toNat : Nat) : Int) ∧ ((rq * (1000000000 : Int64)) - ((rq * (1000000000 : Int64)) / nq) * nq).toInt = (((rq.toInt * 1000000000).toNat % nq.toInt.toNat : Nat) : Int) ∧
      (nq - ((rq * (1000000000 : Int64)) - ((rq * (1000000000 : Int64)) / nq) * nq)).toInt = nq.toInt - (((rq.toInt * 1000000000).toNat % nq.toInt.toNat : Nat) : Int) := by
  have e := own_mulI hq0 hq1
  have hA : rq.toInt * 1000000000 = ((rq.toInt * 1000000000).toNat : Int) := by omega
  have hB : nq.toInt = (nq.toInt.toNat : Int) := by omega
  have d1 : ((rq * (1000000000 : Int64)) / nq).toInt = (((rq.toInt * 1000000000).toNat / nq.toInt.toNat : Nat) : Int) := by
    rw [Jvm.Kit.i64_div (by omega), e, Int.tdiv_eq_ediv_of_nonneg (by omega), Int.natCast_ediv, ← hA, ← hB]
  have d2 : ((rq * (1000000000 : Int64)) - ((rq * (1000000000 : Int64)) / nq) * nq).toInt = (((rq.toInt * 1000000000).toNat % nq.toInt.toNat : Nat) : Int) := by
    rw [Jvm.Kit.i64_rem_nonneg (by rw [e]; omega), e, Int.natCast_emod, ← hA, ← hB]
  have hlt := Nat.mod_lt (rq.toInt * 1000000000).toNat (show 0 < nq.toInt.toNat by omega)
  refine ⟨d1, d2, ?_⟩
  rw [Jvm.Kit.i64_sub (by rw [d2]; omega) (by rw [d2]; omega), d2]
theorem own_eqA {rq nq : Int64} (hq0 : 0 ≤ rq.toInt) (hq1 : 2 * (rq.toInt * 1000000000) < 9007199254740992) (hn0 : 0 < nq.toInt) (hn1 : nq.toInt < 9007199254740992)
    (hr : ¬ (((rq * (1000000000 : Int64)) - ((rq * (1000000000 : Int64)) / nq) * nq) < (nq - ((rq * (1000000000 : Int64)) - ((rq * (1000000000 : Int64)) / nq) * nq)))) :
    Jvm.FP.Core.OwnFl.rnd (FP.ddiv (FP.l2d (rq * (1000000000 : Int64))) (FP.l2d nq)) = ((rq * (1000000000 : Int64)) / nq) + (1 : Int64) := by
  obtain ⟨d1, d2, d3⟩ := own_parts hq0 hq1 hn0 hn1
  rw [Int64.lt_iff_toInt_lt, d2, d3] at hr
  apply Int64.toInt_inj.mp
  have hN : 0 < nq.toInt.toNat := by omega
  rw [(own_div hq0 hq1 hn0 hn1).2.2, own_natk hN, if_neg (by omega)]
  have t1 : (1 : Int64).toInt = 1 := by decide
  have hle := Nat.div_le_self (rq.toInt * 1000000000).toNat nq.toInt.toNat
  generalize (rq.toInt * 1000000000).toNat / nq.toInt.toNat = Qv at *
  rw [Jvm.Kit.i64_add (by rw [d1, t1]; omega) (by rw [d1, t1]; omega), d1, t1]
  omega
theorem own_eqB {rq nq : Int64} (hq0 : 0 ≤ rq.toInt) (hq1 : 2 * (rq.toInt * 1000000000) < 9007199254740992) (hn0 : 0 < nq.toInt) (hn1 : nq.toInt < 9007199254740992)
    (hr : ((rq * (1000000000 : Int64)) - ((rq * (1000000000 : Int64)) / nq) * nq) < (nq - ((rq * (1000000000 : Int64)) - ((rq * (1000000000 : Int64)) / nq) * nq))) :
    Jvm.FP.Core.OwnFl.rnd (FP.ddiv (FP.l2d (rq * (1000000000 : Int64))) (FP.l2d nq)) = ((rq * (1000000000 : Int64)) / nq) := by
  obtain ⟨d1, d2, d3⟩ := own_parts hq0 hq1 hn0 hn1
  rw [Int64.lt_iff_toInt_lt, d2, d3] at hr
  apply Int64.toInt_inj.mp
  have hN : 0 < nq.toInt.toNat := by omega
  rw [(own_div hq0 hq1 hn0 hn1).2.2, own_natk hN, if_pos (by omega), d1]

theorem d1_0 : decode prog_82_method_1_code 0 = .ok (.aload_n 0, 1) := by decide +kernel
theorem d1_1 : decode prog_82_method_1_code 1 = .ok (.invokespecial 1, 3) := by decide +kernel
theorem d1_4 : decode prog_82_method_1_code 4 = .ok (.aload_n 0, 1) := by decide +kernel
theorem d1_5 : decode prog_82_method_1_code 5 = .ok (.lload_n 1, 1) := by decide +kernel
theorem d1_6 : decode prog_82_method_1_code 6 = .ok (.putfield 7, 3) := by decide +kernel
theorem d1_9 : decode prog_82_method_1_code 9 = .ok (.aload_n 0, 1) := by decide +kernel
theorem d1_10 : decode prog_82_method_1_code 10 = .ok (.lload_n 3, 1) := by decide +kernel
theorem d1_11 : decode prog_82_method_1_code 11 = .ok (.putfield 13, 3) := by decide +kernel
theorem d1_14 : decode prog_82_method_1_code 14 = .ok (.aload_n 0, 1) := by decide +kernel
theorem d1_15 : decode prog_82_method_1_code 15 = .ok (.iload 5, 2) := by decide +kernel
theorem d1_17 : decode prog_82_method_1_code 17 = .ok (.putfield 16, 3) := by decide +kernel
theorem d1_20 : decode prog_82_method_1_code 20 = .ok (.return_, 1) := by decide +kernel
theorem ef_1 (m : MethodId) (x0 : Addr) (x1 : Int64) (x2 : Int64) (x3 : Int32) : entryFrame m #[(.ref x0), (.long x1), (.long x2), (.int x3)] 6 = mkF m 0 #[.val (.ref x0), .val (.long x1), .second, .val (.long x2), .second, .val (.int x3)] [] := by first | (simp [entryFrame, mkF, argsToLocals, Value.category]; done) | rfl
def Q1 (Z : State) (a1 : Addr) (q2 : Int64) (q3 : Int64) (p4 : Int32) (u0 : Value) (u1 : Value) (u2 : Value) (h0 : Heap) (n0 : Nat) (v : Option Value) (h : Heap) (L : List Loc) : Prop := v = none ∧ Fr n0 L ∧ Keep h0 h [a1] ∧ Exa Z h a1 "com/example/idle_harbor/idleharbor/perf/TimedRun$Tally" ∧ Fld Z h a1 "com/example/idle_harbor/idleharbor/perf/TimedRun$Tally" "requests" "J" (.long q2) ∧ Fld Z h a1 "com/example/idle_harbor/idleharbor/perf/TimedRun$Tally" "nanos" "J" (.long q3) ∧ Fld Z h a1 "com/example/idle_harbor/idleharbor/perf/TimedRun$Tally" "backends" "I" (.int p4)
set_option maxRecDepth 65536 in
set_option maxHeartbeats 40000000 in
theorem rm1 (l : Launch) (Z : State) (a0 : Array Value) (hw : ∀ d ∈ tables_1, d.before a0 Z = true) (ws : List Jvm.Cond) (a1 : Addr) (q2 : Int64) (q3 : Int64) (p4 : Int32) (u0 : Value) (u1 : Value) (u2 : Value) (h0 : Heap) (n0 : Nat) (Z0 : n0 ≤ h0.size) (E_a1 : Exa Z h0 a1 "com/example/idle_harbor/idleharbor/perf/TimedRun$Tally") (g_a1 : n0 ≤ a1) (F_requests : Fld Z h0 a1 "com/example/idle_harbor/idleharbor/perf/TimedRun$Tally" "requests" "J" u0) (F_nanos : Fld Z h0 a1 "com/example/idle_harbor/idleharbor/perf/TimedRun$Tally" "nanos" "J" u1) (F_backends : Fld Z h0 a1 "com/example/idle_harbor/idleharbor/perf/TimedRun$Tally" "backends" "I" u2) :
    MetFree l (⟨"com/example/idle_harbor/idleharbor/perf/TimedRun$Tally", "<init>", "(JJI)V"⟩ : MethodName) (head1 (Jvm.Cond.code (⟨"com/example/idle_harbor/idleharbor/perf/TimedRun$Tally", "<init>", "(JJI)V"⟩ : MethodName) prog_82_method_1_code 6 none :: ws) ({ frames := 1, cells := 0, slots := 0, locals := 12 } : Room)) (fun ar_ U_ => ar_ = #[(.ref a1), (.long q2), (.long q3), (.int p4)] ∧ Z.Warmed39 U_.vm ∧ U_.heap = h0) (fun _ _ _ _ _ => True) (fun _ U_ oc_ Ue_ => ∃ v_ L_, oc_ = .returned v_ ∧ Q1 Z a1 q2 q3 p4 u0 u1 u2 h0 n0 v_ Ue_.heap L_ ∧ FrameEnd U_ oc_ Ue_ L_ ({ frames := 1, cells := 0, slots := 0, locals := 12 } : Room).cells ({ frames := 1, cells := 0, slots := 0, locals := 12 } : Room).slots) := by
  refine MetFree.of_bodySF (plainFor_of_name pn_0) hisR ?_
  intro p e s m args below meth c s₁ Bd hml0 hP hK
  obtain ⟨rfl, hZ, hh⟩ := hP
  have hx := Bd.exec
  have hby := Bd.bytes
  have hml : c.maxLocals = 6 := hml0
  have hown : s.vm.findClass "com/example/idle_harbor/idleharbor/perf/TimedRun$Tally" = some m.cls := findClass_of_methodNamed Bd.named
  have hnm := (name_of_methodNamed Bd.named Bd.method).1
  have X0 : Stand p l e ({ frames := 1, cells := 0, slots := 0, locals := 12 } : Room) s m #[(.ref a1), (.long q2), (.long q3), (.int p4)] below meth c s₁ [] 0 0 := Stand.of_body Bd
  have e0 : s₁.heap = h0 := by rw [← hh, Bd.state]; rfl
  have N0 := Fr.nil n0
  show OwnEnds p e below s (Q1 Z a1 q2 q3 p4 u0 u1 u2 h0 n0) ({ frames := 1, cells := 0, slots := 0, locals := 12 } : Room).cells ({ frames := 1, cells := 0, slots := 0, locals := 12 } : Room).slots (s₁.setTop (entryFrame m #[(.ref a1), (.long q2), (.long q3), (.int p4)] 6))
  rw [ef_1]
  show OwnEnds _ _ _ _ _ _ _ (s₁.setTop (mkF m 0 #[.val (.ref a1), .val (.long q2), .second, .val (.long q3), .second, .val (.int p4)] []))
  refine OwnEnds.st (fun t k => XS.aloadN X0.here hx rfl (hb hby d1_0) rfl rfl k) ?_
  show OwnEnds _ _ _ _ _ _ _ (s₁.setTop (mkF m 1 #[.val (.ref a1), .val (.long q2), .second, .val (.long q3), .second, .val (.int p4)] [(.ref a1)]))
  obtain ⟨T1, X1, e1, st1⟩ := initO X0 hx hZ hown (hw _ (List.mem_of_getElem? (i := 8) rfl)) (hw _ (List.mem_of_getElem? (i := 9) rfl)) (hw _ (List.mem_of_getElem? (i := 10) rfl)) e0 (g := (mkF m 1 #[.val (.ref a1), .val (.long q2), .second, .val (.long q3), .second, .val (.int p4)] [(.ref a1)])) rfl (by rw [hml]; rfl) rfl (hb hby d1_1) (by decide) (W := 0) (by show 2 * 0 + _ ≤ _; exact Nat.le_of_eq rfl) (by decide)
  refine OwnEnds.st st1 ?_
  show OwnEnds _ _ _ _ _ _ _ (T1.setTop (mkF m 4 #[.val (.ref a1), .val (.long q2), .second, .val (.long q3), .second, .val (.int p4)] []))
  refine OwnEnds.st (fun t k => XS.aloadN X1.here hx rfl (hb hby d1_4) rfl rfl k) ?_
  show OwnEnds _ _ _ _ _ _ _ (T1.setTop (mkF m 5 #[.val (.ref a1), .val (.long q2), .second, .val (.long q3), .second, .val (.int p4)] [(.ref a1)]))
  refine OwnEnds.st (fun t k => XS.lloadN X1.here hx rfl (hb hby d1_5) rfl k) ?_
  show OwnEnds _ _ _ _ _ _ _ (T1.setTop (mkF m 6 #[.val (.ref a1), .val (.long q2), .second, .val (.long q3), .second, .val (.int p4)] [(.long q2), (.ref a1)]))
  obtain ⟨T2, h2, X2, e2, W2, st2⟩ := putF X1 hx hZ hown (host := "") (Or.inl (hw _ (List.mem_of_getElem? (i := 11) rfl))) Via.refl e1 F_requests E_a1 (Or.inr ⟨(hw _ (List.mem_of_getElem? (i := 12) rfl)), rfl, hnm⟩) (hw _ (List.mem_of_getElem? (i := 3) rfl)) (ty := .long) (by decide) rfl rfl (g := (mkF m 6 #[.val (.ref a1), .val (.long q2), .second, .val (.long q3), .second, .val (.int p4)] [(.long q2), (.ref a1)])) rfl rfl (hb hby d1_6)
  have N2 := Fr.snoc X2 N0 g_a1
  refine OwnEnds.st st2 ?_
  show OwnEnds _ _ _ _ _ _ _ (T2.setTop (mkF m 9 #[.val (.ref a1), .val (.long q2), .second, .val (.long q3), .second, .val (.int p4)] []))
  refine OwnEnds.st (fun t k => XS.aloadN X2.here hx rfl (hb hby d1_9) rfl rfl k) ?_
  show OwnEnds _ _ _ _ _ _ _ (T2.setTop (mkF m 10 #[.val (.ref a1), .val (.long q2), .second, .val (.long q3), .second, .val (.int p4)] [(.ref a1)]))
  refine OwnEnds.st (fun t k => XS.lloadN X2.here hx rfl (hb hby d1_10) rfl k) ?_
  show OwnEnds _ _ _ _ _ _ _ (T2.setTop (mkF m 11 #[.val (.ref a1), .val (.long q2), .second, .val (.long q3), .second, .val (.int p4)] [(.long q3), (.ref a1)]))
  obtain ⟨T3, h3, X3, e3, W3, st3⟩ := putF X2 hx hZ hown (host := "") (Or.inl (hw _ (List.mem_of_getElem? (i := 13) rfl))) Via.refl e2 (F_nanos.other W2 (Or.inr (slot_ne (Or.inr (hw _ (List.mem_of_getElem? (i := 14) rfl))) (Or.inr (hw _ (List.mem_of_getElem? (i := 12) rfl))) (by decide) (t := .long) (t' := .long) (by decide) (by decide)))) (E_a1.wr W2) (Or.inr ⟨(hw _ (List.mem_of_getElem? (i := 14) rfl)), rfl, hnm⟩) (hw _ (List.mem_of_getElem? (i := 3) rfl)) (ty := .long) (by decide) rfl rfl (g := (mkF m 11 #[.val (.ref a1), .val (.long q2), .second, .val (.long q3), .second, .val (.int p4)] [(.long q3), (.ref a1)])) rfl rfl (hb hby d1_11)
  have N3 := Fr.snoc X3 N2 g_a1
  refine OwnEnds.st st3 ?_
  show OwnEnds _ _ _ _ _ _ _ (T3.setTop (mkF m 14 #[.val (.ref a1), .val (.long q2), .second, .val (.long q3), .second, .val (.int p4)] []))
  refine OwnEnds.st (fun t k => XS.aloadN X3.here hx rfl (hb hby d1_14) rfl rfl k) ?_
  show OwnEnds _ _ _ _ _ _ _ (T3.setTop (mkF m 15 #[.val (.ref a1), .val (.long q2), .second, .val (.long q3), .second, .val (.int p4)] [(.ref a1)]))
  refine OwnEnds.st (fun t k => XS.iload X3.here hx rfl (hb hby d1_15) rfl k) ?_
  show OwnEnds _ _ _ _ _ _ _ (T3.setTop (mkF m 17 #[.val (.ref a1), .val (.long q2), .second, .val (.long q3), .second, .val (.int p4)] [(.int p4), (.ref a1)]))
  obtain ⟨T4, h4, X4, e4, W4, st4⟩ := putF X3 hx hZ hown (host := "") (Or.inl (hw _ (List.mem_of_getElem? (i := 15) rfl))) Via.refl e3 ((F_backends.other W2 (Or.inr (slot_ne (Or.inr (hw _ (List.mem_of_getElem? (i := 16) rfl))) (Or.inr (hw _ (List.mem_of_getElem? (i := 12) rfl))) (by decide) (t := .int) (t' := .long) (by decide) (by decide)))).other W3 (Or.inr (slot_ne (Or.inr (hw _ (List.mem_of_getElem? (i := 16) rfl))) (Or.inr (hw _ (List.mem_of_getElem? (i := 14) rfl))) (by decide) (t := .int) (t' := .long) (by decide) (by decide)))) ((E_a1.wr W2).wr W3) (Or.inr ⟨(hw _ (List.mem_of_getElem? (i := 16) rfl)), rfl, hnm⟩) (hw _ (List.mem_of_getElem? (i := 3) rfl)) (ty := .int) (by decide) rfl rfl (g := (mkF m 17 #[.val (.ref a1), .val (.long q2), .second, .val (.long q3), .second, .val (.int p4)] [(.int p4), (.ref a1)])) rfl rfl (hb hby d1_17)
  have N4 := Fr.snoc X4 N3 g_a1
  refine OwnEnds.st st4 ?_
  show OwnEnds _ _ _ _ _ _ _ (T4.setTop (mkF m 20 #[.val (.ref a1), .val (.long q2), .second, .val (.long q3), .second, .val (.int p4)] []))
  refine own_retV X4 hx Bd.returns Bd.notSynchronized (hb hby d1_20) ?_ (by decide) (by decide)
  show Q1 Z a1 q2 q3 p4 u0 u1 u2 h0 n0 _ T4.heap _
  rw [e4]
  exact ⟨rfl, N4, ((((Keep.refl h0 [a1]).wr W2 (Or.inl (List.mem_of_getElem? (i := 0) rfl))).wr W3 (Or.inl (List.mem_of_getElem? (i := 0) rfl))).wr W4 (Or.inl (List.mem_of_getElem? (i := 0) rfl))), (((E_a1.wr W2).wr W3).wr W4), (((F_requests.same W2).other W3 (Or.inr (slot_ne (Or.inr (hw _ (List.mem_of_getElem? (i := 12) rfl))) (Or.inr (hw _ (List.mem_of_getElem? (i := 14) rfl))) (by decide) (t := .long) (t' := .long) (by decide) (by decide)))).other W4 (Or.inr (slot_ne (Or.inr (hw _ (List.mem_of_getElem? (i := 12) rfl))) (Or.inr (hw _ (List.mem_of_getElem? (i := 16) rfl))) (by decide) (t := .long) (t' := .int) (by decide) (by decide)))), (((F_nanos.other W2 (Or.inr (slot_ne (Or.inr (hw _ (List.mem_of_getElem? (i := 14) rfl))) (Or.inr (hw _ (List.mem_of_getElem? (i := 12) rfl))) (by decide) (t := .long) (t' := .long) (by decide) (by decide)))).same W3).other W4 (Or.inr (slot_ne (Or.inr (hw _ (List.mem_of_getElem? (i := 14) rfl))) (Or.inr (hw _ (List.mem_of_getElem? (i := 16) rfl))) (by decide) (t := .long) (t' := .int) (by decide) (by decide)))), (((F_backends.other W2 (Or.inr (slot_ne (Or.inr (hw _ (List.mem_of_getElem? (i := 16) rfl))) (Or.inr (hw _ (List.mem_of_getElem? (i := 12) rfl))) (by decide) (t := .int) (t' := .long) (by decide) (by decide)))).other W3 (Or.inr (slot_ne (Or.inr (hw _ (List.mem_of_getElem? (i := 16) rfl))) (Or.inr (hw _ (List.mem_of_getElem? (i := 14) rfl))) (by decide) (t := .int) (t' := .long) (by decide) (by decide)))).same W4)⟩
theorem d4_0 : decode jdk_29_method_22_code 0 = .ok (.dload_n 0, 1) := by decide +kernel
theorem d4_1 : decode jdk_29_method_22_code 1 = .ok (.invokestatic 79, 3) := by decide +kernel
theorem d4_4 : decode jdk_29_method_22_code 4 = .ok (.lstore_n 2, 1) := by decide +kernel
theorem d4_5 : decode jdk_29_method_22_code 5 = .ok (.lload_n 2, 1) := by decide +kernel
theorem d4_6 : decode jdk_29_method_22_code 6 = .ok (.ldc2_w 87, 3) := by decide +kernel
theorem d4_9 : decode jdk_29_method_22_code 9 = .ok (.land, 1) := by decide +kernel
theorem d4_10 : decode jdk_29_method_22_code 10 = .ok (.bipush 52, 2) := by decide +kernel
theorem d4_12 : decode jdk_29_method_22_code 12 = .ok (.lshr, 1) := by decide +kernel
theorem d4_13 : decode jdk_29_method_22_code 13 = .ok (.lstore 4, 2) := by decide +kernel
theorem d4_15 : decode jdk_29_method_22_code 15 = .ok (.ldc2_w 89, 3) := by decide +kernel
theorem d4_18 : decode jdk_29_method_22_code 18 = .ok (.lload 4, 2) := by decide +kernel
theorem d4_20 : decode jdk_29_method_22_code 20 = .ok (.lsub, 1) := by decide +kernel
theorem d4_21 : decode jdk_29_method_22_code 21 = .ok (.lstore 6, 2) := by decide +kernel
theorem d4_23 : decode jdk_29_method_22_code 23 = .ok (.lload 6, 2) := by decide +kernel
theorem d4_25 : decode jdk_29_method_22_code 25 = .ok (.ldc2_w 91, 3) := by decide +kernel
theorem d4_28 : decode jdk_29_method_22_code 28 = .ok (.land, 1) := by decide +kernel
theorem d4_29 : decode jdk_29_method_22_code 29 = .ok (.lconst 0, 1) := by decide +kernel
theorem d4_30 : decode jdk_29_method_22_code 30 = .ok (.lcmp, 1) := by decide +kernel
theorem d4_31 : decode jdk_29_method_22_code 31 = .ok (.ifCond .ne 36, 3) := by decide +kernel
theorem d4_34 : decode jdk_29_method_22_code 34 = .ok (.lload_n 2, 1) := by decide +kernel
theorem d4_35 : decode jdk_29_method_22_code 35 = .ok (.ldc2_w 93, 3) := by decide +kernel
theorem d4_38 : decode jdk_29_method_22_code 38 = .ok (.land, 1) := by decide +kernel
theorem d4_39 : decode jdk_29_method_22_code 39 = .ok (.ldc2_w 95, 3) := by decide +kernel
theorem d4_42 : decode jdk_29_method_22_code 42 = .ok (.lor, 1) := by decide +kernel
theorem d4_43 : decode jdk_29_method_22_code 43 = .ok (.lstore 8, 2) := by decide +kernel
theorem d4_45 : decode jdk_29_method_22_code 45 = .ok (.lload_n 2, 1) := by decide +kernel
theorem d4_46 : decode jdk_29_method_22_code 46 = .ok (.lconst 0, 1) := by decide +kernel
theorem d4_47 : decode jdk_29_method_22_code 47 = .ok (.lcmp, 1) := by decide +kernel
theorem d4_48 : decode jdk_29_method_22_code 48 = .ok (.ifCond .ge 8, 3) := by decide +kernel
theorem d4_56 : decode jdk_29_method_22_code 56 = .ok (.lload 8, 2) := by decide +kernel
theorem d4_58 : decode jdk_29_method_22_code 58 = .ok (.lload 6, 2) := by decide +kernel
theorem d4_60 : decode jdk_29_method_22_code 60 = .ok (.l2i, 1) := by decide +kernel
theorem d4_61 : decode jdk_29_method_22_code 61 = .ok (.lshr, 1) := by decide +kernel
theorem d4_62 : decode jdk_29_method_22_code 62 = .ok (.lconst 1, 1) := by decide +kernel
theorem d4_63 : decode jdk_29_method_22_code 63 = .ok (.ladd, 1) := by decide +kernel
theorem d4_64 : decode jdk_29_method_22_code 64 = .ok (.iconst 1, 1) := by decide +kernel
theorem d4_65 : decode jdk_29_method_22_code 65 = .ok (.lshr, 1) := by decide +kernel
theorem d4_66 : decode jdk_29_method_22_code 66 = .ok (.lreturn, 1) := by decide +kernel
theorem d4_67 : decode jdk_29_method_22_code 67 = .ok (.dload_n 0, 1) := by decide +kernel
theorem d4_68 : decode jdk_29_method_22_code 68 = .ok (.d2l, 1) := by decide +kernel
theorem d4_69 : decode jdk_29_method_22_code 69 = .ok (.lreturn, 1) := by decide +kernel
theorem ef_4 (m : MethodId) (x0 : UInt64) : entryFrame m #[(.double x0)] 10 = mkF m 0 #[.val (.double x0), .second, .unset, .unset, .unset, .unset, .unset, .unset, .unset, .unset] [] := by first | (simp [entryFrame, mkF, argsToLocals, Value.category]; done) | rfl
def Q4 (Z : State) (x1 : UInt64) (h0 : Heap) (n0 : Nat) (v : Option Value) (h : Heap) (L : List Loc) : Prop := v = some (.long (Jvm.FP.Core.OwnFl.rnd x1)) ∧ Fr n0 L ∧ h = h0
set_option maxRecDepth 65536 in
set_option maxHeartbeats 40000000 in
theorem rm4 (l : Launch) (Z : State) (a0 : Array Value) (hw : ∀ d ∈ tables_1, d.before a0 Z = true) (ws : List Jvm.Cond) (x1 : UInt64) (h0 : Heap) (n0 : Nat) (Z0 : n0 ≤ h0.size) (hB : ¬ (x1.toInt64 < 0)) :
    MetFree l (⟨"java/lang/Math", "round", "(D)J"⟩ : MethodName) (head1 (Jvm.Cond.code (⟨"java/lang/Math", "round", "(D)J"⟩ : MethodName) jdk_29_method_22_code 10 (some .long) :: ws) ({ frames := 1, cells := 0, slots := 0, locals := 15 } : Room)) (fun ar_ U_ => ar_ = #[(.double x1)] ∧ Z.Warmed39 U_.vm ∧ U_.heap = h0) (fun _ _ _ _ _ => True) (fun _ U_ oc_ Ue_ => ∃ v_ L_, oc_ = .returned v_ ∧ Q4 Z x1 h0 n0 v_ Ue_.heap L_ ∧ FrameEnd U_ oc_ Ue_ L_ ({ frames := 1, cells := 0, slots := 0, locals := 15 } : Room).cells ({ frames := 1, cells := 0, slots := 0, locals := 15 } : Room).slots) := by
  refine MetFree.of_bodySF (Jvm.Free.JP.mathPlain rfl (by decide +kernel)) hisR ?_
  intro p e s m args below meth c s₁ Bd hml0 hP hK
  obtain ⟨rfl, hZ, hh⟩ := hP
  have hx := Bd.exec
  have hby := Bd.bytes
  have hml : c.maxLocals = 10 := hml0
  have hown : s.vm.findClass "java/lang/Math" = some m.cls := findClass_of_methodNamed Bd.named
  have hnm := (name_of_methodNamed Bd.named Bd.method).1
  have X0 : Stand p l e ({ frames := 1, cells := 0, slots := 0, locals := 15 } : Room) s m #[(.double x1)] below meth c s₁ [] 0 0 := Stand.of_body Bd
  have e0 : s₁.heap = h0 := by rw [← hh, Bd.state]; rfl
  have N0 := Fr.nil n0
  show OwnEnds p e below s (Q4 Z x1 h0 n0) ({ frames := 1, cells := 0, slots := 0, locals := 15 } : Room).cells ({ frames := 1, cells := 0, slots := 0, locals := 15 } : Room).slots (s₁.setTop (entryFrame m #[(.double x1)] 10))
  rw [ef_4]
  show OwnEnds _ _ _ _ _ _ _ (s₁.setTop (mkF m 0 #[.val (.double x1), .second, .unset, .unset, .unset, .unset, .unset, .unset, .unset, .unset] []))
  refine OwnEnds.st (fun t k => XS.dloadN X0.here hx rfl (hb hby d4_0) rfl k) ?_
  show OwnEnds _ _ _ _ _ _ _ (s₁.setTop (mkF m 1 #[.val (.double x1), .second, .unset, .unset, .unset, .unset, .unset, .unset, .unset, .unset] [(.double x1)]))
  obtain ⟨vm1, X1, st1⟩ := X0.doubleToRawLongBits hx hown (mvT hZ (hw _ (List.mem_of_getElem? (i := 28) rfl))) (mvT hZ (hw _ (List.mem_of_getElem? (i := 31) rfl))) (mvT hZ (hw _ (List.mem_of_getElem? (i := 29) rfl))) (mvT hZ (hw _ (List.mem_of_getElem? (i := 30) rfl))) (g := (mkF m 1 #[.val (.double x1), .second, .unset, .unset, .unset, .unset, .unset, .unset, .unset, .unset] [(.double x1)])) rfl (by rw [hml]; rfl) rfl (hb hby d4_1) (by decide) (by show 2 * 0 + 0 + (nativeFrameWords "java/lang/Double" "doubleToRawLongBits" 2 + 11) ≤ _; decide)
  have e1 : (s₁.setVm vm1).heap = h0 := e0
  refine OwnEnds.st st1 ?_
  show OwnEnds _ _ _ _ _ _ _ ((s₁.setVm vm1).setTop (mkF m 4 #[.val (.double x1), .second, .unset, .unset, .unset, .unset, .unset, .unset, .unset, .unset] [(.long (x1.toInt64))]))
  refine OwnEnds.st (fun t k => XS.lstoreN X1.here hx rfl (hb hby d4_4) rfl (l' := #[.val (.double x1), .second, .val (.long (x1.toInt64)), .second, .unset, .unset, .unset, .unset, .unset, .unset]) rfl k) ?_
  show OwnEnds _ _ _ _ _ _ _ ((s₁.setVm vm1).setTop (mkF m 5 #[.val (.double x1), .second, .val (.long (x1.toInt64)), .second, .unset, .unset, .unset, .unset, .unset, .unset] []))
  refine OwnEnds.st (fun t k => XS.lloadN X1.here hx rfl (hb hby d4_5) rfl k) ?_
  show OwnEnds _ _ _ _ _ _ _ ((s₁.setVm vm1).setTop (mkF m 6 #[.val (.double x1), .second, .val (.long (x1.toInt64)), .second, .unset, .unset, .unset, .unset, .unset, .unset] [(.long (x1.toInt64))]))
  refine OwnEnds.st (fun t k => X1.ldc2Long hx hown (mvT hZ (hw _ (List.mem_of_getElem? (i := 32) rfl))) (g := (mkF m 6 #[.val (.double x1), .second, .val (.long (x1.toInt64)), .second, .unset, .unset, .unset, .unset, .unset, .unset] [(.long (x1.toInt64))])) rfl (hb hby d4_6) t k) ?_
  show OwnEnds _ _ _ _ _ _ _ ((s₁.setVm vm1).setTop (mkF m 9 #[.val (.double x1), .second, .val (.long (x1.toInt64)), .second, .unset, .unset, .unset, .unset, .unset, .unset] [(.long (9218868437227405312 : Int64)), (.long (x1.toInt64))]))
  refine OwnEnds.st (fun t k => XS.land X1.here hx rfl (hb hby d4_9) rfl k) ?_
  show OwnEnds _ _ _ _ _ _ _ ((s₁.setVm vm1).setTop (mkF m 10 #[.val (.double x1), .second, .val (.long (x1.toInt64)), .second, .unset, .unset, .unset, .unset, .unset, .unset] [(.long ((x1.toInt64) &&& (9218868437227405312 : Int64)))]))
  refine OwnEnds.st (fun t k => XS.bipush X1.here hx rfl (hb hby d4_10) k) ?_
  show OwnEnds _ _ _ _ _ _ _ ((s₁.setVm vm1).setTop (mkF m 12 #[.val (.double x1), .second, .val (.long (x1.toInt64)), .second, .unset, .unset, .unset, .unset, .unset, .unset] [(.int (52 : Int32)), (.long ((x1.toInt64) &&& (9218868437227405312 : Int64)))]))
  refine OwnEnds.st (fun t k => XS.lshr X1.here hx rfl (hb hby d4_12) rfl k) ?_
  show OwnEnds _ _ _ _ _ _ _ ((s₁.setVm vm1).setTop (mkF m 13 #[.val (.double x1), .second, .val (.long (x1.toInt64)), .second, .unset, .unset, .unset, .unset, .unset, .unset] [(.long (((x1.toInt64) &&& (9218868437227405312 : Int64)) >>> ((52 : Int32) &&& 0x3f).toInt64))]))
  refine OwnEnds.st (fun t k => XS.lstore X1.here hx rfl (hb hby d4_13) rfl (l' := #[.val (.double x1), .second, .val (.long (x1.toInt64)), .second, .val (.long (((x1.toInt64) &&& (9218868437227405312 : Int64)) >>> ((52 : Int32) &&& 0x3f).toInt64)), .second, .unset, .unset, .unset, .unset]) rfl k) ?_
  show OwnEnds _ _ _ _ _ _ _ ((s₁.setVm vm1).setTop (mkF m 15 #[.val (.double x1), .second, .val (.long (x1.toInt64)), .second, .val (.long (((x1.toInt64) &&& (9218868437227405312 : Int64)) >>> ((52 : Int32) &&& 0x3f).toInt64)), .second, .unset, .unset, .unset, .unset] []))
  refine OwnEnds.st (fun t k => X1.ldc2Long hx hown (mvT hZ (hw _ (List.mem_of_getElem? (i := 33) rfl))) (g := (mkF m 15 #[.val (.double x1), .second, .val (.long (x1.toInt64)), .second, .val (.long (((x1.toInt64) &&& (9218868437227405312 : Int64)) >>> ((52 : Int32) &&& 0x3f).toInt64)), .second, .unset, .unset, .unset, .unset] [])) rfl (hb hby d4_15) t k) ?_
  show OwnEnds _ _ _ _ _ _ _ ((s₁.setVm vm1).setTop (mkF m 18 #[.val (.double x1), .second, .val (.long (x1.toInt64)), .second, .val (.long (((x1.toInt64) &&& (9218868437227405312 : Int64)) >>> ((52 : Int32) &&& 0x3f).toInt64)), .second, .unset, .unset, .unset, .unset] [(.long (1074 : Int64))]))
  refine OwnEnds.st (fun t k => XS.lload X1.here hx rfl (hb hby d4_18) rfl k) ?_
  show OwnEnds _ _ _ _ _ _ _ ((s₁.setVm vm1).setTop (mkF m 20 #[.val (.double x1), .second, .val (.long (x1.toInt64)), .second, .val (.long (((x1.toInt64) &&& (9218868437227405312 : Int64)) >>> ((52 : Int32) &&& 0x3f).toInt64)), .second, .unset, .unset, .unset, .unset] [(.long (((x1.toInt64) &&& (9218868437227405312 : Int64)) >>> ((52 : Int32) &&& 0x3f).toInt64)), (.long (1074 : Int64))]))
  refine OwnEnds.st (fun t k => XS.lsub X1.here hx rfl (hb hby d4_20) rfl k) ?_
  show OwnEnds _ _ _ _ _ _ _ ((s₁.setVm vm1).setTop (mkF m 21 #[.val (.double x1), .second, .val (.long (x1.toInt64)), .second, .val (.long (((x1.toInt64) &&& (9218868437227405312 : Int64)) >>> ((52 : Int32) &&& 0x3f).toInt64)), .second, .unset, .unset, .unset, .unset] [(.long ((1074 : Int64) - (((x1.toInt64) &&& (9218868437227405312 : Int64)) >>> ((52 : Int32) &&& 0x3f).toInt64)))]))
  refine OwnEnds.st (fun t k => XS.lstore X1.here hx rfl (hb hby d4_21) rfl (l' := #[.val (.double x1), .second, .val (.long (x1.toInt64)), .second, .val (.long (((x1.toInt64) &&& (9218868437227405312 : Int64)) >>> ((52 : Int32) &&& 0x3f).toInt64)), .second, .val (.long ((1074 : Int64) - (((x1.toInt64) &&& (9218868437227405312 : Int64)) >>> ((52 : Int32) &&& 0x3f).toInt64))), .second, .unset, .unset]) rfl k) ?_
  show OwnEnds _ _ _ _ _ _ _ ((s₁.setVm vm1).setTop (mkF m 23 #[.val (.double x1), .second, .val (.long (x1.toInt64)), .second, .val (.long (((x1.toInt64) &&& (9218868437227405312 : Int64)) >>> ((52 : Int32) &&& 0x3f).toInt64)), .second, .val (.long ((1074 : Int64) - (((x1.toInt64) &&& (9218868437227405312 : Int64)) >>> ((52 : Int32) &&& 0x3f).toInt64))), .second, .unset, .unset] []))
  refine OwnEnds.st (fun t k => XS.lload X1.here hx rfl (hb hby d4_23) rfl k) ?_
  show OwnEnds _ _ _ _ _ _ _ ((s₁.setVm vm1).setTop (mkF m 25 #[.val (.double x1), .second, .val (.long (x1.toInt64)), .second, .val (.long (((x1.toInt64) &&& (9218868437227405312 : Int64)) >>> ((52 : Int32) &&& 0x3f).toInt64)), .second, .val (.long ((1074 : Int64) - (((x1.toInt64) &&& (9218868437227405312 : Int64)) >>> ((52 : Int32) &&& 0x3f).toInt64))), .second, .unset, .unset] [(.long ((1074 : Int64) - (((x1.toInt64) &&& (9218868437227405312 : Int64)) >>> ((52 : Int32) &&& 0x3f).toInt64)))]))
  refine OwnEnds.st (fun t k => X1.ldc2Long hx hown (mvT hZ (hw _ (List.mem_of_getElem? (i := 34) rfl))) (g := (mkF m 25 #[.val (.double x1), .second, .val (.long (x1.toInt64)), .second, .val (.long (((x1.toInt64) &&& (9218868437227405312 : Int64)) >>> ((52 : Int32) &&& 0x3f).toInt64)), .second, .val (.long ((1074 : Int64) - (((x1.toInt64) &&& (9218868437227405312 : Int64)) >>> ((52 : Int32) &&& 0x3f).toInt64))), .second, .unset, .unset] [(.long ((1074 : Int64) - (((x1.toInt64) &&& (9218868437227405312 : Int64)) >>> ((52 : Int32) &&& 0x3f).toInt64)))])) rfl (hb hby d4_25) t k) ?_
  show OwnEnds _ _ _ _ _ _ _ ((s₁.setVm vm1).setTop (mkF m 28 #[.val (.double x1), .second, .val (.long (x1.toInt64)), .second, .val (.long (((x1.toInt64) &&& (9218868437227405312 : Int64)) >>> ((52 : Int32) &&& 0x3f).toInt64)), .second, .val (.long ((1074 : Int64) - (((x1.toInt64) &&& (9218868437227405312 : Int64)) >>> ((52 : Int32) &&& 0x3f).toInt64))), .second, .unset, .unset] [(.long (-64 : Int64)), (.long ((1074 : Int64) - (((x1.toInt64) &&& (9218868437227405312 : Int64)) >>> ((52 : Int32) &&& 0x3f).toInt64)))]))
  refine OwnEnds.st (fun t k => XS.land X1.here hx rfl (hb hby d4_28) rfl k) ?_
  show OwnEnds _ _ _ _ _ _ _ ((s₁.setVm vm1).setTop (mkF m 29 #[.val (.double x1), .second, .val (.long (x1.toInt64)), .second, .val (.long (((x1.toInt64) &&& (9218868437227405312 : Int64)) >>> ((52 : Int32) &&& 0x3f).toInt64)), .second, .val (.long ((1074 : Int64) - (((x1.toInt64) &&& (9218868437227405312 : Int64)) >>> ((52 : Int32) &&& 0x3f).toInt64))), .second, .unset, .unset] [(.long (((1074 : Int64) - (((x1.toInt64) &&& (9218868437227405312 : Int64)) >>> ((52 : Int32) &&& 0x3f).toInt64)) &&& (-64 : Int64)))]))
  refine OwnEnds.st (fun t k => XS.lconst X1.here hx rfl (hb hby d4_29) k) ?_
  show OwnEnds _ _ _ _ _ _ _ ((s₁.setVm vm1).setTop (mkF m 30 #[.val (.double x1), .second, .val (.long (x1.toInt64)), .second, .val (.long (((x1.toInt64) &&& (9218868437227405312 : Int64)) >>> ((52 : Int32) &&& 0x3f).toInt64)), .second, .val (.long ((1074 : Int64) - (((x1.toInt64) &&& (9218868437227405312 : Int64)) >>> ((52 : Int32) &&& 0x3f).toInt64))), .second, .unset, .unset] [(.long (0 : Int64)), (.long (((1074 : Int64) - (((x1.toInt64) &&& (9218868437227405312 : Int64)) >>> ((52 : Int32) &&& 0x3f).toInt64)) &&& (-64 : Int64)))]))
  refine OwnEnds.st (fun t k => XS.lcmp X1.here hx rfl (hb hby d4_30) rfl k) ?_
  show OwnEnds _ _ _ _ _ _ _ ((s₁.setVm vm1).setTop (mkF m 31 #[.val (.double x1), .second, .val (.long (x1.toInt64)), .second, .val (.long (((x1.toInt64) &&& (9218868437227405312 : Int64)) >>> ((52 : Int32) &&& 0x3f).toInt64)), .second, .val (.long ((1074 : Int64) - (((x1.toInt64) &&& (9218868437227405312 : Int64)) >>> ((52 : Int32) &&& 0x3f).toInt64))), .second, .unset, .unset] [(.int (lcmpW (((1074 : Int64) - (((x1.toInt64) &&& (9218868437227405312 : Int64)) >>> ((52 : Int32) &&& 0x3f).toInt64)) &&& (-64 : Int64)) (0 : Int64)))]))
  by_cases hS : ((1074 : Int64) - ((x1.toInt64 &&& (9218868437227405312 : Int64)) >>> ((52 : Int32) &&& 0x3f).toInt64)) &&& (-64 : Int64) = 0
  · refine OwnEnds.st (fun t k => XS.ifNo X1.here hx rfl (hb hby d4_31) rfl ((if0 _ _).trans (teq (own_lc0 hS : (lcmpW (((1074 : Int64) - (((x1.toInt64) &&& (9218868437227405312 : Int64)) >>> ((52 : Int32) &&& 0x3f).toInt64)) &&& (-64 : Int64)) (0 : Int64)) = (0 : Int32))).2) k) ?_
    show OwnEnds _ _ _ _ _ _ _ ((s₁.setVm vm1).setTop (mkF m 34 #[.val (.double x1), .second, .val (.long (x1.toInt64)), .second, .val (.long (((x1.toInt64) &&& (9218868437227405312 : Int64)) >>> ((52 : Int32) &&& 0x3f).toInt64)), .second, .val (.long ((1074 : Int64) - (((x1.toInt64) &&& (9218868437227405312 : Int64)) >>> ((52 : Int32) &&& 0x3f).toInt64))), .second, .unset, .unset] []))
    refine OwnEnds.st (fun t k => XS.lloadN X1.here hx rfl (hb hby d4_34) rfl k) ?_
    show OwnEnds _ _ _ _ _ _ _ ((s₁.setVm vm1).setTop (mkF m 35 #[.val (.double x1), .second, .val (.long (x1.toInt64)), .second, .val (.long (((x1.toInt64) &&& (9218868437227405312 : Int64)) >>> ((52 : Int32) &&& 0x3f).toInt64)), .second, .val (.long ((1074 : Int64) - (((x1.toInt64) &&& (9218868437227405312 : Int64)) >>> ((52 : Int32) &&& 0x3f).toInt64))), .second, .unset, .unset] [(.long (x1.toInt64))]))
    refine OwnEnds.st (fun t k => X1.ldc2Long hx hown (mvT hZ (hw _ (List.mem_of_getElem? (i := 35) rfl))) (g := (mkF m 35 #[.val (.double x1), .second, .val (.long (x1.toInt64)), .second, .val (.long (((x1.toInt64) &&& (9218868437227405312 : Int64)) >>> ((52 : Int32) &&& 0x3f).toInt64)), .second, .val (.long ((1074 : Int64) - (((x1.toInt64) &&& (9218868437227405312 : Int64)) >>> ((52 : Int32) &&& 0x3f).toInt64))), .second, .unset, .unset] [(.long (x1.toInt64))])) rfl (hb hby d4_35) t k) ?_
    show OwnEnds _ _ _ _ _ _ _ ((s₁.setVm vm1).setTop (mkF m 38 #[.val (.double x1), .second, .val (.long (x1.toInt64)), .second, .val (.long (((x1.toInt64) &&& (9218868437227405312 : Int64)) >>> ((52 : Int32) &&& 0x3f).toInt64)), .second, .val (.long ((1074 : Int64) - (((x1.toInt64) &&& (9218868437227405312 : Int64)) >>> ((52 : Int32) &&& 0x3f).toInt64))), .second, .unset, .unset] [(.long (4503599627370495 : Int64)), (.long (x1.toInt64))]))
    refine OwnEnds.st (fun t k => XS.land X1.here hx rfl (hb hby d4_38) rfl k) ?_
    show OwnEnds _ _ _ _ _ _ _ ((s₁.setVm vm1).setTop (mkF m 39 #[.val (.double x1), .second, .val (.long (x1.toInt64)), .second, .val (.long (((x1.toInt64) &&& (9218868437227405312 : Int64)) >>> ((52 : Int32) &&& 0x3f).toInt64)), .second, .val (.long ((1074 : Int64) - (((x1.toInt64) &&& (9218868437227405312 : Int64)) >>> ((52 : Int32) &&& 0x3f).toInt64))), .second, .unset, .unset] [(.long ((x1.toInt64) &&& (4503599627370495 : Int64)))]))
    refine OwnEnds.st (fun t k => X1.ldc2Long hx hown (mvT hZ (hw _ (List.mem_of_getElem? (i := 36) rfl))) (g := (mkF m 39 #[.val (.double x1), .second, .val (.long (x1.toInt64)), .second, .val (.long (((x1.toInt64) &&& (9218868437227405312 : Int64)) >>> ((52 : Int32) &&& 0x3f).toInt64)), .second, .val (.long ((1074 : Int64) - (((x1.toInt64) &&& (9218868437227405312 : Int64)) >>> ((52 : Int32) &&& 0x3f).toInt64))), .second, .unset, .unset] [(.long ((x1.toInt64) &&& (4503599627370495 : Int64)))])) rfl (hb hby d4_39) t k) ?_
    show OwnEnds _ _ _ _ _ _ _ ((s₁.setVm vm1).setTop (mkF m 42 #[.val (.double x1), .second, .val (.long (x1.toInt64)), .second, .val (.long (((x1.toInt64) &&& (9218868437227405312 : Int64)) >>> ((52 : Int32) &&& 0x3f).toInt64)), .second, .val (.long ((1074 : Int64) - (((x1.toInt64) &&& (9218868437227405312 : Int64)) >>> ((52 : Int32) &&& 0x3f).toInt64))), .second, .unset, .unset] [(.long (4503599627370496 : Int64)), (.long ((x1.toInt64) &&& (4503599627370495 : Int64)))]))
    refine OwnEnds.st (fun t k => XS.lor X1.here hx rfl (hb hby d4_42) rfl k) ?_
    show OwnEnds _ _ _ _ _ _ _ ((s₁.setVm vm1).setTop (mkF m 43 #[.val (.double x1), .second, .val (.long (x1.toInt64)), .second, .val (.long (((x1.toInt64) &&& (9218868437227405312 : Int64)) >>> ((52 : Int32) &&& 0x3f).toInt64)), .second, .val (.long ((1074 : Int64) - (((x1.toInt64) &&& (9218868437227405312 : Int64)) >>> ((52 : Int32) &&& 0x3f).toInt64))), .second, .unset, .unset] [(.long (((x1.toInt64) &&& (4503599627370495 : Int64)) ||| (4503599627370496 : Int64)))]))
    refine OwnEnds.st (fun t k => XS.lstore X1.here hx rfl (hb hby d4_43) rfl (l' := #[.val (.double x1), .second, .val (.long (x1.toInt64)), .second, .val (.long (((x1.toInt64) &&& (9218868437227405312 : Int64)) >>> ((52 : Int32) &&& 0x3f).toInt64)), .second, .val (.long ((1074 : Int64) - (((x1.toInt64) &&& (9218868437227405312 : Int64)) >>> ((52 : Int32) &&& 0x3f).toInt64))), .second, .val (.long (((x1.toInt64) &&& (4503599627370495 : Int64)) ||| (4503599627370496 : Int64))), .second]) rfl k) ?_
    show OwnEnds _ _ _ _ _ _ _ ((s₁.setVm vm1).setTop (mkF m 45 #[.val (.double x1), .second, .val (.long (x1.toInt64)), .second, .val (.long (((x1.toInt64) &&& (9218868437227405312 : Int64)) >>> ((52 : Int32) &&& 0x3f).toInt64)), .second, .val (.long ((1074 : Int64) - (((x1.toInt64) &&& (9218868437227405312 : Int64)) >>> ((52 : Int32) &&& 0x3f).toInt64))), .second, .val (.long (((x1.toInt64) &&& (4503599627370495 : Int64)) ||| (4503599627370496 : Int64))), .second] []))
    refine OwnEnds.st (fun t k => XS.lloadN X1.here hx rfl (hb hby d4_45) rfl k) ?_
    show OwnEnds _ _ _ _ _ _ _ ((s₁.setVm vm1).setTop (mkF m 46 #[.val (.double x1), .second, .val (.long (x1.toInt64)), .second, .val (.long (((x1.toInt64) &&& (9218868437227405312 : Int64)) >>> ((52 : Int32) &&& 0x3f).toInt64)), .second, .val (.long ((1074 : Int64) - (((x1.toInt64) &&& (9218868437227405312 : Int64)) >>> ((52 : Int32) &&& 0x3f).toInt64))), .second, .val (.long (((x1.toInt64) &&& (4503599627370495 : Int64)) ||| (4503599627370496 : Int64))), .second] [(.long (x1.toInt64))]))
    refine OwnEnds.st (fun t k => XS.lconst X1.here hx rfl (hb hby d4_46) k) ?_
    show OwnEnds _ _ _ _ _ _ _ ((s₁.setVm vm1).setTop (mkF m 47 #[.val (.double x1), .second, .val (.long (x1.toInt64)), .second, .val (.long (((x1.toInt64) &&& (9218868437227405312 : Int64)) >>> ((52 : Int32) &&& 0x3f).toInt64)), .second, .val (.long ((1074 : Int64) - (((x1.toInt64) &&& (9218868437227405312 : Int64)) >>> ((52 : Int32) &&& 0x3f).toInt64))), .second, .val (.long (((x1.toInt64) &&& (4503599627370495 : Int64)) ||| (4503599627370496 : Int64))), .second] [(.long (0 : Int64)), (.long (x1.toInt64))]))
    refine OwnEnds.st (fun t k => XS.lcmp X1.here hx rfl (hb hby d4_47) rfl k) ?_
    show OwnEnds _ _ _ _ _ _ _ ((s₁.setVm vm1).setTop (mkF m 48 #[.val (.double x1), .second, .val (.long (x1.toInt64)), .second, .val (.long (((x1.toInt64) &&& (9218868437227405312 : Int64)) >>> ((52 : Int32) &&& 0x3f).toInt64)), .second, .val (.long ((1074 : Int64) - (((x1.toInt64) &&& (9218868437227405312 : Int64)) >>> ((52 : Int32) &&& 0x3f).toInt64))), .second, .val (.long (((x1.toInt64) &&& (4503599627370495 : Int64)) ||| (4503599627370496 : Int64))), .second] [(.int (lcmpW (x1.toInt64) (0 : Int64)))]))
    refine OwnEnds.st (fun t k => XS.ifYes X1.here hx rfl (pc0 := 48) (pc' := 56) rfl (hb hby d4_48) rfl ((if0 _ _).trans (flt (own_lcge hB : ¬ ((lcmpW (x1.toInt64) (0 : Int64)) < (0 : Int32)))).2.1) (by decide) (by decide) k) ?_
    show OwnEnds _ _ _ _ _ _ _ ((s₁.setVm vm1).setTop (mkF m 56 #[.val (.double x1), .second, .val (.long (x1.toInt64)), .second, .val (.long (((x1.toInt64) &&& (9218868437227405312 : Int64)) >>> ((52 : Int32) &&& 0x3f).toInt64)), .second, .val (.long ((1074 : Int64) - (((x1.toInt64) &&& (9218868437227405312 : Int64)) >>> ((52 : Int32) &&& 0x3f).toInt64))), .second, .val (.long (((x1.toInt64) &&& (4503599627370495 : Int64)) ||| (4503599627370496 : Int64))), .second] []))
    refine OwnEnds.st (fun t k => XS.lload X1.here hx rfl (hb hby d4_56) rfl k) ?_
    show OwnEnds _ _ _ _ _ _ _ ((s₁.setVm vm1).setTop (mkF m 58 #[.val (.double x1), .second, .val (.long (x1.toInt64)), .second, .val (.long (((x1.toInt64) &&& (9218868437227405312 : Int64)) >>> ((52 : Int32) &&& 0x3f).toInt64)), .second, .val (.long ((1074 : Int64) - (((x1.toInt64) &&& (9218868437227405312 : Int64)) >>> ((52 : Int32) &&& 0x3f).toInt64))), .second, .val (.long (((x1.toInt64) &&& (4503599627370495 : Int64)) ||| (4503599627370496 : Int64))), .second] [(.long (((x1.toInt64) &&& (4503599627370495 : Int64)) ||| (4503599627370496 : Int64)))]))
    refine OwnEnds.st (fun t k => XS.lload X1.here hx rfl (hb hby d4_58) rfl k) ?_
    show OwnEnds _ _ _ _ _ _ _ ((s₁.setVm vm1).setTop (mkF m 60 #[.val (.double x1), .second, .val (.long (x1.toInt64)), .second, .val (.long (((x1.toInt64) &&& (9218868437227405312 : Int64)) >>> ((52 : Int32) &&& 0x3f).toInt64)), .second, .val (.long ((1074 : Int64) - (((x1.toInt64) &&& (9218868437227405312 : Int64)) >>> ((52 : Int32) &&& 0x3f).toInt64))), .second, .val (.long (((x1.toInt64) &&& (4503599627370495 : Int64)) ||| (4503599627370496 : Int64))), .second] [(.long ((1074 : Int64) - (((x1.toInt64) &&& (9218868437227405312 : Int64)) >>> ((52 : Int32) &&& 0x3f).toInt64))), (.long (((x1.toInt64) &&& (4503599627370495 : Int64)) ||| (4503599627370496 : Int64)))]))
    refine OwnEnds.st (fun t k => XS.l2i X1.here hx rfl (hb hby d4_60) rfl k) ?_
    show OwnEnds _ _ _ _ _ _ _ ((s₁.setVm vm1).setTop (mkF m 61 #[.val (.double x1), .second, .val (.long (x1.toInt64)), .second, .val (.long (((x1.toInt64) &&& (9218868437227405312 : Int64)) >>> ((52 : Int32) &&& 0x3f).toInt64)), .second, .val (.long ((1074 : Int64) - (((x1.toInt64) &&& (9218868437227405312 : Int64)) >>> ((52 : Int32) &&& 0x3f).toInt64))), .second, .val (.long (((x1.toInt64) &&& (4503599627370495 : Int64)) ||| (4503599627370496 : Int64))), .second] [(.int (((1074 : Int64) - (((x1.toInt64) &&& (9218868437227405312 : Int64)) >>> ((52 : Int32) &&& 0x3f).toInt64)).toInt32)), (.long (((x1.toInt64) &&& (4503599627370495 : Int64)) ||| (4503599627370496 : Int64)))]))
    refine OwnEnds.st (fun t k => XS.lshr X1.here hx rfl (hb hby d4_61) rfl k) ?_
    show OwnEnds _ _ _ _ _ _ _ ((s₁.setVm vm1).setTop (mkF m 62 #[.val (.double x1), .second, .val (.long (x1.toInt64)), .second, .val (.long (((x1.toInt64) &&& (9218868437227405312 : Int64)) >>> ((52 : Int32) &&& 0x3f).toInt64)), .second, .val (.long ((1074 : Int64) - (((x1.toInt64) &&& (9218868437227405312 : Int64)) >>> ((52 : Int32) &&& 0x3f).toInt64))), .second, .val (.long (((x1.toInt64) &&& (4503599627370495 : Int64)) ||| (4503599627370496 : Int64))), .second] [(.long ((((x1.toInt64) &&& (4503599627370495 : Int64)) ||| (4503599627370496 : Int64)) >>> ((((1074 : Int64) - (((x1.toInt64) &&& (9218868437227405312 : Int64)) >>> ((52 : Int32) &&& 0x3f).toInt64)).toInt32) &&& 0x3f).toInt64))]))
    refine OwnEnds.st (fun t k => XS.lconst X1.here hx rfl (hb hby d4_62) k) ?_
    show OwnEnds _ _ _ _ _ _ _ ((s₁.setVm vm1).setTop (mkF m 63 #[.val (.double x1), .second, .val (.long (x1.toInt64)), .second, .val (.long (((x1.toInt64) &&& (9218868437227405312 : Int64)) >>> ((52 : Int32) &&& 0x3f).toInt64)), .second, .val (.long ((1074 : Int64) - (((x1.toInt64) &&& (9218868437227405312 : Int64)) >>> ((52 : Int32) &&& 0x3f).toInt64))), .second, .val (.long (((x1.toInt64) &&& (4503599627370495 : Int64)) ||| (4503599627370496 : Int64))), .second] [(.long (1 : Int64)), (.long ((((x1.toInt64) &&& (4503599627370495 : Int64)) ||| (4503599627370496 : Int64)) >>> ((((1074 : Int64) - (((x1.toInt64) &&& (9218868437227405312 : Int64)) >>> ((52 : Int32) &&& 0x3f).toInt64)).toInt32) &&& 0x3f).toInt64))]))
    refine OwnEnds.st (fun t k => XS.ladd X1.here hx rfl (hb hby d4_63) rfl k) ?_
    show OwnEnds _ _ _ _ _ _ _ ((s₁.setVm vm1).setTop (mkF m 64 #[.val (.double x1), .second, .val (.long (x1.toInt64)), .second, .val (.long (((x1.toInt64) &&& (9218868437227405312 : Int64)) >>> ((52 : Int32) &&& 0x3f).toInt64)), .second, .val (.long ((1074 : Int64) - (((x1.toInt64) &&& (9218868437227405312 : Int64)) >>> ((52 : Int32) &&& 0x3f).toInt64))), .second, .val (.long (((x1.toInt64) &&& (4503599627370495 : Int64)) ||| (4503599627370496 : Int64))), .second] [(.long (((((x1.toInt64) &&& (4503599627370495 : Int64)) ||| (4503599627370496 : Int64)) >>> ((((1074 : Int64) - (((x1.toInt64) &&& (9218868437227405312 : Int64)) >>> ((52 : Int32) &&& 0x3f).toInt64)).toInt32) &&& 0x3f).toInt64) + (1 : Int64)))]))
    refine OwnEnds.st (fun t k => XS.iconst X1.here hx rfl (hb hby d4_64) k) ?_
    show OwnEnds _ _ _ _ _ _ _ ((s₁.setVm vm1).setTop (mkF m 65 #[.val (.double x1), .second, .val (.long (x1.toInt64)), .second, .val (.long (((x1.toInt64) &&& (9218868437227405312 : Int64)) >>> ((52 : Int32) &&& 0x3f).toInt64)), .second, .val (.long ((1074 : Int64) - (((x1.toInt64) &&& (9218868437227405312 : Int64)) >>> ((52 : Int32) &&& 0x3f).toInt64))), .second, .val (.long (((x1.toInt64) &&& (4503599627370495 : Int64)) ||| (4503599627370496 : Int64))), .second] [(.int (1 : Int32)), (.long (((((x1.toInt64) &&& (4503599627370495 : Int64)) ||| (4503599627370496 : Int64)) >>> ((((1074 : Int64) - (((x1.toInt64) &&& (9218868437227405312 : Int64)) >>> ((52 : Int32) &&& 0x3f).toInt64)).toInt32) &&& 0x3f).toInt64) + (1 : Int64)))]))
    refine OwnEnds.st (fun t k => XS.lshr X1.here hx rfl (hb hby d4_65) rfl k) ?_
    show OwnEnds _ _ _ _ _ _ _ ((s₁.setVm vm1).setTop (mkF m 66 #[.val (.double x1), .second, .val (.long (x1.toInt64)), .second, .val (.long (((x1.toInt64) &&& (9218868437227405312 : Int64)) >>> ((52 : Int32) &&& 0x3f).toInt64)), .second, .val (.long ((1074 : Int64) - (((x1.toInt64) &&& (9218868437227405312 : Int64)) >>> ((52 : Int32) &&& 0x3f).toInt64))), .second, .val (.long (((x1.toInt64) &&& (4503599627370495 : Int64)) ||| (4503599627370496 : Int64))), .second] [(.long ((((((x1.toInt64) &&& (4503599627370495 : Int64)) ||| (4503599627370496 : Int64)) >>> ((((1074 : Int64) - (((x1.toInt64) &&& (9218868437227405312 : Int64)) >>> ((52 : Int32) &&& 0x3f).toInt64)).toInt32) &&& 0x3f).toInt64) + (1 : Int64)) >>> ((1 : Int32) &&& 0x3f).toInt64))]))
    refine own_retJ X1 hx Bd.returns Bd.notSynchronized (hb hby d4_66) ?_ (by decide) (by decide)
    show Q4 Z x1 h0 n0 _ (s₁.setVm vm1).heap _
    rw [e1]
    exact ⟨by unfold Jvm.FP.Core.OwnFl.rnd; first | rw [if_pos hS] | rw [if_neg hS], N0, rfl⟩
  · refine OwnEnds.st (fun t k => XS.ifYes X1.here hx rfl (pc0 := 31) (pc' := 67) rfl (hb hby d4_31) rfl ((if0 _ _).trans (feq (own_lc1 hS : ¬ ((lcmpW (((1074 : Int64) - (((x1.toInt64) &&& (9218868437227405312 : Int64)) >>> ((52 : Int32) &&& 0x3f).toInt64)) &&& (-64 : Int64)) (0 : Int64)) = (0 : Int32)))).2) (by decide) (by decide) k) ?_
    show OwnEnds _ _ _ _ _ _ _ ((s₁.setVm vm1).setTop (mkF m 67 #[.val (.double x1), .second, .val (.long (x1.toInt64)), .second, .val (.long (((x1.toInt64) &&& (9218868437227405312 : Int64)) >>> ((52 : Int32) &&& 0x3f).toInt64)), .second, .val (.long ((1074 : Int64) - (((x1.toInt64) &&& (9218868437227405312 : Int64)) >>> ((52 : Int32) &&& 0x3f).toInt64))), .second, .unset, .unset] []))
    refine OwnEnds.st (fun t k => XS.dloadN X1.here hx rfl (hb hby d4_67) rfl k) ?_
    show OwnEnds _ _ _ _ _ _ _ ((s₁.setVm vm1).setTop (mkF m 68 #[.val (.double x1), .second, .val (.long (x1.toInt64)), .second, .val (.long (((x1.toInt64) &&& (9218868437227405312 : Int64)) >>> ((52 : Int32) &&& 0x3f).toInt64)), .second, .val (.long ((1074 : Int64) - (((x1.toInt64) &&& (9218868437227405312 : Int64)) >>> ((52 : Int32) &&& 0x3f).toInt64))), .second, .unset, .unset] [(.double x1)]))
    refine OwnEnds.st (fun t k => XS.d2lS X1.here hx rfl (hb hby d4_68) rfl rfl k) ?_
    show OwnEnds _ _ _ _ _ _ _ ((s₁.setVm vm1).setTop (mkF m 69 #[.val (.double x1), .second, .val (.long (x1.toInt64)), .second, .val (.long (((x1.toInt64) &&& (9218868437227405312 : Int64)) >>> ((52 : Int32) &&& 0x3f).toInt64)), .second, .val (.long ((1074 : Int64) - (((x1.toInt64) &&& (9218868437227405312 : Int64)) >>> ((52 : Int32) &&& 0x3f).toInt64))), .second, .unset, .unset] [(.long (FP.d2l x1))]))
    refine own_retJ X1 hx Bd.returns Bd.notSynchronized (hb hby d4_69) ?_ (by decide) (by decide)
    show Q4 Z x1 h0 n0 _ (s₁.setVm vm1).heap _
    rw [e1]
    exact ⟨by unfold Jvm.FP.Core.OwnFl.rnd; first | rw [if_pos hS] | rw [if_neg hS], N0, rfl⟩
theorem d3_0 : decode prog_82_method_4_code 0 = .ok (.aload_n 0, 1) := by decide +kernel
theorem d3_1 : decode prog_82_method_4_code 1 = .ok (.getfield 7, 3) := by decide +kernel
theorem d3_4 : decode prog_82_method_4_code 4 = .ok (.l2d, 1) := by decide +kernel
theorem d3_5 : decode prog_82_method_4_code 5 = .ok (.ldc2_w 20, 3) := by decide +kernel
theorem d3_8 : decode prog_82_method_4_code 8 = .ok (.dmul, 1) := by decide +kernel
theorem d3_9 : decode prog_82_method_4_code 9 = .ok (.aload_n 0, 1) := by decide +kernel
theorem d3_10 : decode prog_82_method_4_code 10 = .ok (.getfield 13, 3) := by decide +kernel
theorem d3_13 : decode prog_82_method_4_code 13 = .ok (.l2d, 1) := by decide +kernel
theorem d3_14 : decode prog_82_method_4_code 14 = .ok (.ddiv, 1) := by decide +kernel
theorem d3_15 : decode prog_82_method_4_code 15 = .ok (.invokestatic 22, 3) := by decide +kernel
theorem d3_18 : decode prog_82_method_4_code 18 = .ok (.lreturn, 1) := by decide +kernel
theorem ef_3 (m : MethodId) (x0 : Addr) : entryFrame m #[(.ref x0)] 1 = mkF m 0 #[.val (.ref x0)] [] := by first | (simp [entryFrame, mkF, argsToLocals, Value.category]; done) | rfl
def Q3 (Z : State) (a1 : Addr) (q2 : Int64) (q3 : Int64) (h0 : Heap) (n0 : Nat) (v : Option Value) (h : Heap) (L : List Loc) : Prop := v = some (.long (Jvm.FP.Core.OwnFl.rnd (FP.ddiv (FP.l2d (q2 * (1000000000 : Int64))) (FP.l2d q3)))) ∧ Fr n0 L ∧ h = h0
set_option maxRecDepth 65536 in
set_option maxHeartbeats 40000000 in
theorem rm3 (l : Launch) (Z : State) (a0 : Array Value) (hw : ∀ d ∈ tables_1, d.before a0 Z = true) (ws : List Jvm.Cond) (a1 : Addr) (q2 : Int64) (q3 : Int64) (h0 : Heap) (n0 : Nat) (Z0 : n0 ≤ h0.size) (F_q : Fld Z h0 a1 "com/example/idle_harbor/idleharbor/perf/TimedRun$Tally" "requests" "J" (.long q2)) (F_n : Fld Z h0 a1 "com/example/idle_harbor/idleharbor/perf/TimedRun$Tally" "nanos" "J" (.long q3)) (hq0 : 0 ≤ q2.toInt) (hq1 : 2 * (q2.toInt * 1000000000) < 9007199254740992) (hn0 : 0 < q3.toInt) (hn1 : q3.toInt < 9007199254740992) :
    MetFree l (⟨"com/example/idle_harbor/idleharbor/perf/TimedRun$Tally", "perSecond", "()J"⟩ : MethodName) (head1 (Jvm.Cond.code (⟨"com/example/idle_harbor/idleharbor/perf/TimedRun$Tally", "perSecond", "()J"⟩ : MethodName) prog_82_method_4_code 1 (some .long) :: ws) ({ frames := 2, cells := 0, slots := 0, locals := 36 } : Room)) (fun ar_ U_ => ar_ = #[(.ref a1)] ∧ Z.Warmed39 U_.vm ∧ U_.heap = h0) (fun _ _ _ _ _ => True) (fun _ U_ oc_ Ue_ => ∃ v_ L_, oc_ = .returned v_ ∧ Q3 Z a1 q2 q3 h0 n0 v_ Ue_.heap L_ ∧ FrameEnd U_ oc_ Ue_ L_ ({ frames := 2, cells := 0, slots := 0, locals := 36 } : Room).cells ({ frames := 2, cells := 0, slots := 0, locals := 36 } : Room).slots) := by
  refine MetFree.of_bodySF (plainFor_of_name pn_0) hisR ?_
  intro p e s m args below meth c s₁ Bd hml0 hP hK
  obtain ⟨rfl, hZ, hh⟩ := hP
  have hx := Bd.exec
  have hby := Bd.bytes
  have hml : c.maxLocals = 1 := hml0
  have hown : s.vm.findClass "com/example/idle_harbor/idleharbor/perf/TimedRun$Tally" = some m.cls := findClass_of_methodNamed Bd.named
  have hnm := (name_of_methodNamed Bd.named Bd.method).1
  have X0 : Stand p l e ({ frames := 2, cells := 0, slots := 0, locals := 36 } : Room) s m #[(.ref a1)] below meth c s₁ [] 0 0 := Stand.of_body Bd
  have e0 : s₁.heap = h0 := by rw [← hh, Bd.state]; rfl
  have N0 := Fr.nil n0
  show OwnEnds p e below s (Q3 Z a1 q2 q3 h0 n0) ({ frames := 2, cells := 0, slots := 0, locals := 36 } : Room).cells ({ frames := 2, cells := 0, slots := 0, locals := 36 } : Room).slots (s₁.setTop (entryFrame m #[(.ref a1)] 1))
  rw [ef_3]
  show OwnEnds _ _ _ _ _ _ _ (s₁.setTop (mkF m 0 #[.val (.ref a1)] []))
  refine OwnEnds.st (fun t k => XS.aloadN X0.here hx rfl (hb hby d3_0) rfl rfl k) ?_
  show OwnEnds _ _ _ _ _ _ _ (s₁.setTop (mkF m 1 #[.val (.ref a1)] [(.ref a1)]))
  obtain ⟨T1, X1, e1, st1⟩ := getF X0 hx hZ hown (host := "") (Or.inl (hw _ (List.mem_of_getElem? (i := 11) rfl))) Via.refl e0 F_q (g := (mkF m 1 #[.val (.ref a1)] [(.ref a1)])) rfl rfl (hb hby d3_1)
  refine OwnEnds.st st1 ?_
  show OwnEnds _ _ _ _ _ _ _ (T1.setTop (mkF m 4 #[.val (.ref a1)] [(.long q2)]))
  refine OwnEnds.st (fun t k => XS.l2dS X1.here hx rfl (hb hby d3_4) rfl rfl k) ?_
  show OwnEnds _ _ _ _ _ _ _ (T1.setTop (mkF m 5 #[.val (.ref a1)] [(.double (FP.l2d q2))]))
  refine OwnEnds.st (fun t k => X1.ldc2DoubleC hx hown (mvT hZ (hw _ (List.mem_of_getElem? (i := 23) rfl))) (g := (mkF m 5 #[.val (.ref a1)] [(.double (FP.l2d q2))])) rfl (hb hby d3_5) t k) ?_
  show OwnEnds _ _ _ _ _ _ _ (T1.setTop (mkF m 8 #[.val (.ref a1)] [(.double (4741671816366391296 : UInt64)), (.double (FP.l2d q2))]))
  refine OwnEnds.st (fun t k => XS.dmulS X1.here hx rfl (hb hby d3_8) rfl (own_mul hq0 hq1).1 (own_mul hq0 hq1).2 k) ?_
  show OwnEnds _ _ _ _ _ _ _ (T1.setTop (mkF m 9 #[.val (.ref a1)] [(.double (FP.l2d (q2 * (1000000000 : Int64))))]))
  refine OwnEnds.st (fun t k => XS.aloadN X1.here hx rfl (hb hby d3_9) rfl rfl k) ?_
  show OwnEnds _ _ _ _ _ _ _ (T1.setTop (mkF m 10 #[.val (.ref a1)] [(.ref a1), (.double (FP.l2d (q2 * (1000000000 : Int64))))]))
  obtain ⟨T2, X2, e2, st2⟩ := getF X1 hx hZ hown (host := "") (Or.inl (hw _ (List.mem_of_getElem? (i := 13) rfl))) Via.refl e1 F_n (g := (mkF m 10 #[.val (.ref a1)] [(.ref a1), (.double (FP.l2d (q2 * (1000000000 : Int64))))])) rfl rfl (hb hby d3_10)
  refine OwnEnds.st st2 ?_
  show OwnEnds _ _ _ _ _ _ _ (T2.setTop (mkF m 13 #[.val (.ref a1)] [(.long q3), (.double (FP.l2d (q2 * (1000000000 : Int64))))]))
  refine OwnEnds.st (fun t k => XS.l2dS X2.here hx rfl (hb hby d3_13) rfl rfl k) ?_
  show OwnEnds _ _ _ _ _ _ _ (T2.setTop (mkF m 14 #[.val (.ref a1)] [(.double (FP.l2d q3)), (.double (FP.l2d (q2 * (1000000000 : Int64))))]))
  refine OwnEnds.st (fun t k => XS.ddivS X2.here hx rfl (hb hby d3_14) rfl (own_div hq0 hq1 hn0 hn1).1 rfl k) ?_
  show OwnEnds _ _ _ _ _ _ _ (T2.setTop (mkF m 15 #[.val (.ref a1)] [(.double (FP.ddiv (FP.l2d (q2 * (1000000000 : Int64))) (FP.l2d q3)))]))
  obtain ⟨_, _, ⟨T3, L3, k3, n3⟩, -, X3, ⟨Lc3, hQ3, l3, y3, z3⟩, st3⟩ := Jvm.LawKit.callS X2 hx (y := (⟨"java/lang/Math", "round", "(D)J"⟩ : MethodName)) hown (mvT hZ (hw _ (List.mem_of_getElem? (i := 24) rfl))) (mvT hZ (hw _ (List.mem_of_getElem? (i := 25) rfl))) (mvT hZ (hw _ (List.mem_of_getElem? (i := 26) rfl))) (mvT hZ (hw _ (List.mem_of_getElem? (i := 27) rfl))) (by decide) (backOf (W := 0) (rm4 l Z a0 hw [] (FP.ddiv (FP.l2d (q2 * (1000000000 : Int64))) (FP.l2d q3)) h0 n0 Z0 (own_div hq0 hq1 hn0 hn1).2.1) hZ (hw _ (List.mem_of_getElem? (i := 27) rfl)) (hw _ (List.mem_of_getElem? (i := 26) rfl)) (by decide) (by decide)) (g := (mkF m 15 #[.val (.ref a1)] [(.double (FP.ddiv (FP.l2d (q2 * (1000000000 : Int64))) (FP.l2d q3)))])) rfl (by rw [hml]; rfl) (argsL := [(.double (FP.ddiv (FP.l2d (q2 * (1000000000 : Int64))) (FP.l2d q3)))]) (rest := []) (lenOf pd_0 rfl) rfl (by show 2 * 0 + _ ≤ _; exact Nat.le_of_eq rfl) (hb hby d3_15) (fun _ _ => ⟨rfl, e2, (by decide : 0 + 0 ≤ _), (by decide : 0 + 0 ≤ _)⟩)
  dsimp only [Pt.U, Pt.locs, Pt.cells, Pt.slots] at X3 l3 y3 z3 st3 hQ3
  subst l3 y3 z3
  obtain ⟨rfl, N3q, hh3⟩ := hQ3
  have N3 := Fr.app N0 N3q
  refine OwnEnds.st st3 ?_
  show OwnEnds _ _ _ _ _ _ _ (T3.setTop (mkF m 18 #[.val (.ref a1)] [(.long (Jvm.FP.Core.OwnFl.rnd (FP.ddiv (FP.l2d (q2 * (1000000000 : Int64))) (FP.l2d q3))))]))
  refine own_retJ X3 hx Bd.returns Bd.notSynchronized (hb hby d3_18) ?_ (by decide) (by decide)
  show Q3 Z a1 q2 q3 h0 n0 _ T3.heap _
  rw [hh3]
  exact ⟨rfl, N3, rfl⟩
theorem ef_0 (m : MethodId) (x0 : Int64) (x1 : Int64) (x2 : Int32) (x3 : Int32) : entryFrame m #[(.long x0), (.long x1), (.int x2), (.int x3)] maxLocals = mkF m 0 #[.val (.long x0), .second, .val (.long x1), .second, .val (.int x2), .val (.int x3), .unset, .unset, .unset, .unset, .unset, .unset, .unset, .unset, .unset, .unset, .unset, .unset, .unset] [] := by first | (simp [entryFrame, mkF, argsToLocals, Value.category, maxLocals]; done) | rfl
def Q0 (Z : State) (q1 : Int64) (q2 : Int64) (p3 : Int32) (p4 : Int32) (h0 : Heap) (n0 : Nat) (v : Option Value) (h : Heap) (L : List Loc) : Prop := v = some (.int 1) ∧ Fr n0 L
set_option maxRecDepth 65536 in
set_option maxHeartbeats 40000000 in
theorem rm0 (l : Launch) (Z : State) (a0 : Array Value) (hw : ∀ d ∈ tables_1, d.before a0 Z = true) (ws : List Jvm.Cond) (q1 : Int64) (q2 : Int64) (p3 : Int32) (p4 : Int32) (h0 : Heap) (n0 : Nat) (Z0 : n0 ≤ h0.size) :
    MetFree l x (head1 (Jvm.Cond.code x code maxLocals ret :: ws) room_1) (fun ar_ U_ => ar_ = #[(.long q1), (.long q2), (.int p3), (.int p4)] ∧ Z.Warmed39 U_.vm ∧ U_.heap = h0) (fun _ _ _ _ _ => True) (fun _ U_ oc_ Ue_ => ∃ v_ L_, oc_ = .returned v_ ∧ Q0 Z q1 q2 p3 p4 h0 n0 v_ Ue_.heap L_ ∧ FrameEnd U_ oc_ Ue_ L_ room_1.cells room_1.slots) := by
  refine MetFree.of_bodySF (plainFor_of_name pn_1) hisR ?_
  intro p e s m args below meth c s₁ Bd hml0 hP hK
  obtain ⟨rfl, hZ, hh⟩ := hP
  have hx := Bd.exec
  have hby := Bd.bytes
  have hml : c.maxLocals = 19 := hml0
  have hown : s.vm.findClass "com/example/idle_harbor/idleharbor/perf/TallyPerSecondPinLaw" = some m.cls := findClass_of_methodNamed Bd.named
  have hnm := (name_of_methodNamed Bd.named Bd.method).1
  have X0 : Stand p l e room_1 s m #[(.long q1), (.long q2), (.int p3), (.int p4)] below meth c s₁ [] 0 0 := Stand.of_body Bd
  have e0 : s₁.heap = h0 := by rw [← hh, Bd.state]; rfl
  have N0 := Fr.nil n0
  show OwnEnds p e below s (Q0 Z q1 q2 p3 p4 h0 n0) room_1.cells room_1.slots (s₁.setTop (entryFrame m #[(.long q1), (.long q2), (.int p3), (.int p4)] maxLocals))
  rw [ef_0]
  show OwnEnds _ _ _ _ _ _ _ (s₁.setTop (mkF m 0 #[.val (.long q1), .second, .val (.long q2), .second, .val (.int p3), .val (.int p4), .unset, .unset, .unset, .unset, .unset, .unset, .unset, .unset, .unset, .unset, .unset, .unset, .unset] []))
  refine OwnEnds.st (fun t k => XS.lloadN X0.here hx rfl (hb hby at_0) rfl k) ?_
  show OwnEnds _ _ _ _ _ _ _ (s₁.setTop (mkF m 1 #[.val (.long q1), .second, .val (.long q2), .second, .val (.int p3), .val (.int p4), .unset, .unset, .unset, .unset, .unset, .unset, .unset, .unset, .unset, .unset, .unset, .unset, .unset] [(.long q1)]))
  refine OwnEnds.st (fun t k => X0.ldc2Long hx hown (mvT hZ (hw _ (List.mem_of_getElem? (i := 0) rfl))) (g := (mkF m 1 #[.val (.long q1), .second, .val (.long q2), .second, .val (.int p3), .val (.int p4), .unset, .unset, .unset, .unset, .unset, .unset, .unset, .unset, .unset, .unset, .unset, .unset, .unset] [(.long q1)])) rfl (hb hby at_1) t k) ?_
  show OwnEnds _ _ _ _ _ _ _ (s₁.setTop (mkF m 4 #[.val (.long q1), .second, .val (.long q2), .second, .val (.int p3), .val (.int p4), .unset, .unset, .unset, .unset, .unset, .unset, .unset, .unset, .unset, .unset, .unset, .unset, .unset] [(.long (4194303 : Int64)), (.long q1)]))
  refine OwnEnds.st (fun t k => XS.land X0.here hx rfl (hb hby at_4) rfl k) ?_
  show OwnEnds _ _ _ _ _ _ _ (s₁.setTop (mkF m 5 #[.val (.long q1), .second, .val (.long q2), .second, .val (.int p3), .val (.int p4), .unset, .unset, .unset, .unset, .unset, .unset, .unset, .unset, .unset, .unset, .unset, .unset, .unset] [(.long (q1 &&& (4194303 : Int64)))]))
  refine OwnEnds.st (fun t k => XS.lstore X0.here hx rfl (hb hby at_5) rfl (l' := #[.val (.long q1), .second, .val (.long q2), .second, .val (.int p3), .val (.int p4), .val (.long (q1 &&& (4194303 : Int64))), .second, .unset, .unset, .unset, .unset, .unset, .unset, .unset, .unset, .unset, .unset, .unset]) rfl k) ?_
  show OwnEnds _ _ _ _ _ _ _ (s₁.setTop (mkF m 7 #[.val (.long q1), .second, .val (.long q2), .second, .val (.int p3), .val (.int p4), .val (.long (q1 &&& (4194303 : Int64))), .second, .unset, .unset, .unset, .unset, .unset, .unset, .unset, .unset, .unset, .unset, .unset] []))
  refine OwnEnds.st (fun t k => XS.lloadN X0.here hx rfl (hb hby at_7) rfl k) ?_
  show OwnEnds _ _ _ _ _ _ _ (s₁.setTop (mkF m 8 #[.val (.long q1), .second, .val (.long q2), .second, .val (.int p3), .val (.int p4), .val (.long (q1 &&& (4194303 : Int64))), .second, .unset, .unset, .unset, .unset, .unset, .unset, .unset, .unset, .unset, .unset, .unset] [(.long q2)]))
  refine OwnEnds.st (fun t k => X0.ldc2Long hx hown (mvT hZ (hw _ (List.mem_of_getElem? (i := 1) rfl))) (g := (mkF m 8 #[.val (.long q1), .second, .val (.long q2), .second, .val (.int p3), .val (.int p4), .val (.long (q1 &&& (4194303 : Int64))), .second, .unset, .unset, .unset, .unset, .unset, .unset, .unset, .unset, .unset, .unset, .unset] [(.long q2)])) rfl (hb hby at_8) t k) ?_
  show OwnEnds _ _ _ _ _ _ _ (s₁.setTop (mkF m 11 #[.val (.long q1), .second, .val (.long q2), .second, .val (.int p3), .val (.int p4), .val (.long (q1 &&& (4194303 : Int64))), .second, .unset, .unset, .unset, .unset, .unset, .unset, .unset, .unset, .unset, .unset, .unset] [(.long (9007199254740991 : Int64)), (.long q2)]))
  refine OwnEnds.st (fun t k => XS.land X0.here hx rfl (hb hby at_11) rfl k) ?_
  show OwnEnds _ _ _ _ _ _ _ (s₁.setTop (mkF m 12 #[.val (.long q1), .second, .val (.long q2), .second, .val (.int p3), .val (.int p4), .val (.long (q1 &&& (4194303 : Int64))), .second, .unset, .unset, .unset, .unset, .unset, .unset, .unset, .unset, .unset, .unset, .unset] [(.long (q2 &&& (9007199254740991 : Int64)))]))
  refine OwnEnds.st (fun t k => XS.iload X0.here hx rfl (hb hby at_12) rfl k) ?_
  show OwnEnds _ _ _ _ _ _ _ (s₁.setTop (mkF m 14 #[.val (.long q1), .second, .val (.long q2), .second, .val (.int p3), .val (.int p4), .val (.long (q1 &&& (4194303 : Int64))), .second, .unset, .unset, .unset, .unset, .unset, .unset, .unset, .unset, .unset, .unset, .unset] [(.int p3), (.long (q2 &&& (9007199254740991 : Int64)))]))
  refine OwnEnds.st (fun t k => XS.bipush X0.here hx rfl (hb hby at_14) k) ?_
  show OwnEnds _ _ _ _ _ _ _ (s₁.setTop (mkF m 16 #[.val (.long q1), .second, .val (.long q2), .second, .val (.int p3), .val (.int p4), .val (.long (q1 &&& (4194303 : Int64))), .second, .unset, .unset, .unset, .unset, .unset, .unset, .unset, .unset, .unset, .unset, .unset] [(.int (63 : Int32)), (.int p3), (.long (q2 &&& (9007199254740991 : Int64)))]))
  refine OwnEnds.st (fun t k => XS.iand X0.here hx rfl (hb hby at_16) rfl k) ?_
  show OwnEnds _ _ _ _ _ _ _ (s₁.setTop (mkF m 17 #[.val (.long q1), .second, .val (.long q2), .second, .val (.int p3), .val (.int p4), .val (.long (q1 &&& (4194303 : Int64))), .second, .unset, .unset, .unset, .unset, .unset, .unset, .unset, .unset, .unset, .unset, .unset] [(.int (p3 &&& (63 : Int32))), (.long (q2 &&& (9007199254740991 : Int64)))]))
  refine OwnEnds.st (fun t k => XS.lushr X0.here hx rfl (hb hby at_17) rfl k) ?_
  show OwnEnds _ _ _ _ _ _ _ (s₁.setTop (mkF m 18 #[.val (.long q1), .second, .val (.long q2), .second, .val (.int p3), .val (.int p4), .val (.long (q1 &&& (4194303 : Int64))), .second, .unset, .unset, .unset, .unset, .unset, .unset, .unset, .unset, .unset, .unset, .unset] [(.long (((q2 &&& (9007199254740991 : Int64)).toUInt64 >>> ((p3 &&& (63 : Int32)) &&& 0x3f).toInt64.toUInt64).toInt64))]))
  refine OwnEnds.st (fun t k => XS.lstore X0.here hx rfl (hb hby at_18) rfl (l' := #[.val (.long q1), .second, .val (.long q2), .second, .val (.int p3), .val (.int p4), .val (.long (q1 &&& (4194303 : Int64))), .second, .val (.long (((q2 &&& (9007199254740991 : Int64)).toUInt64 >>> ((p3 &&& (63 : Int32)) &&& 0x3f).toInt64.toUInt64).toInt64)), .second, .unset, .unset, .unset, .unset, .unset, .unset, .unset, .unset, .unset]) rfl k) ?_
  show OwnEnds _ _ _ _ _ _ _ (s₁.setTop (mkF m 20 #[.val (.long q1), .second, .val (.long q2), .second, .val (.int p3), .val (.int p4), .val (.long (q1 &&& (4194303 : Int64))), .second, .val (.long (((q2 &&& (9007199254740991 : Int64)).toUInt64 >>> ((p3 &&& (63 : Int32)) &&& 0x3f).toInt64.toUInt64).toInt64)), .second, .unset, .unset, .unset, .unset, .unset, .unset, .unset, .unset, .unset] []))
  refine OwnEnds.st (fun t k => XS.lload X0.here hx rfl (hb hby at_20) rfl k) ?_
  show OwnEnds _ _ _ _ _ _ _ (s₁.setTop (mkF m 22 #[.val (.long q1), .second, .val (.long q2), .second, .val (.int p3), .val (.int p4), .val (.long (q1 &&& (4194303 : Int64))), .second, .val (.long (((q2 &&& (9007199254740991 : Int64)).toUInt64 >>> ((p3 &&& (63 : Int32)) &&& 0x3f).toInt64.toUInt64).toInt64)), .second, .unset, .unset, .unset, .unset, .unset, .unset, .unset, .unset, .unset] [(.long (((q2 &&& (9007199254740991 : Int64)).toUInt64 >>> ((p3 &&& (63 : Int32)) &&& 0x3f).toInt64.toUInt64).toInt64))]))
  refine OwnEnds.st (fun t k => XS.lconst X0.here hx rfl (hb hby at_22) k) ?_
  show OwnEnds _ _ _ _ _ _ _ (s₁.setTop (mkF m 23 #[.val (.long q1), .second, .val (.long q2), .second, .val (.int p3), .val (.int p4), .val (.long (q1 &&& (4194303 : Int64))), .second, .val (.long (((q2 &&& (9007199254740991 : Int64)).toUInt64 >>> ((p3 &&& (63 : Int32)) &&& 0x3f).toInt64.toUInt64).toInt64)), .second, .unset, .unset, .unset, .unset, .unset, .unset, .unset, .unset, .unset] [(.long (0 : Int64)), (.long (((q2 &&& (9007199254740991 : Int64)).toUInt64 >>> ((p3 &&& (63 : Int32)) &&& 0x3f).toInt64.toUInt64).toInt64))]))
  refine OwnEnds.st (fun t k => XS.lcmp X0.here hx rfl (hb hby at_23) rfl k) ?_
  show OwnEnds _ _ _ _ _ _ _ (s₁.setTop (mkF m 24 #[.val (.long q1), .second, .val (.long q2), .second, .val (.int p3), .val (.int p4), .val (.long (q1 &&& (4194303 : Int64))), .second, .val (.long (((q2 &&& (9007199254740991 : Int64)).toUInt64 >>> ((p3 &&& (63 : Int32)) &&& 0x3f).toInt64.toUInt64).toInt64)), .second, .unset, .unset, .unset, .unset, .unset, .unset, .unset, .unset, .unset] [(.int (lcmpW (((q2 &&& (9007199254740991 : Int64)).toUInt64 >>> ((p3 &&& (63 : Int32)) &&& 0x3f).toInt64.toUInt64).toInt64) (0 : Int64)))]))
  obtain ⟨rq, hrq⟩ : ∃ z, z = (q1 &&& (4194303 : Int64)) := ⟨_, rfl⟩
  rw [← hrq]
  obtain ⟨hq0, hq1⟩ := own_rng hrq
  have j30 : ∀ nq : Int64, 0 < nq.toInt → nq.toInt < 9007199254740992 → OwnEnds p e below s (Q0 Z q1 q2 p3 p4 h0 n0) room_1.cells room_1.slots (s₁.setTop (mkF m 30 #[.val (.long q1), .second, .val (.long q2), .second, .val (.int p3), .val (.int p4), .val (.long rq), .second, .val (.long nq), .second, .unset, .unset, .unset, .unset, .unset, .unset, .unset, .unset, .unset] [])) := by
    intro nq hn0 hn1
    obtain ⟨T1, h1, X1, e1, E1, A1, D1, -, st1⟩ := newO X0 hx hZ hown (hw _ (List.mem_of_getElem? (i := 2) rfl)) (hw _ (List.mem_of_getElem? (i := 3) rfl)) (hw _ (List.mem_of_getElem? (i := 4) rfl)) e0 (g := (mkF m 30 #[.val (.long q1), .second, .val (.long q2), .second, .val (.int p3), .val (.int p4), .val (.long rq), .second, .val (.long nq), .second, .unset, .unset, .unset, .unset, .unset, .unset, .unset, .unset, .unset] [])) rfl (hb hby at_30) (by decide) (by decide)
    obtain ⟨b1, g1⟩ : ∃ z, z = h0.size := ⟨_, rfl⟩
    rw [← g1] at A1 D1 st1
    refine OwnEnds.st st1 ?_
    show OwnEnds _ _ _ _ _ _ _ (T1.setTop (mkF m 33 #[.val (.long q1), .second, .val (.long q2), .second, .val (.int p3), .val (.int p4), .val (.long rq), .second, .val (.long nq), .second, .unset, .unset, .unset, .unset, .unset, .unset, .unset, .unset, .unset] [(.ref b1)]))
    refine OwnEnds.st (fun t k => XS.dup X1.here hx rfl (hb hby at_33) rfl rfl k) ?_
    show OwnEnds _ _ _ _ _ _ _ (T1.setTop (mkF m 34 #[.val (.long q1), .second, .val (.long q2), .second, .val (.int p3), .val (.int p4), .val (.long rq), .second, .val (.long nq), .second, .unset, .unset, .unset, .unset, .unset, .unset, .unset, .unset, .unset] [(.ref b1), (.ref b1)]))
    refine OwnEnds.st (fun t k => XS.lload X1.here hx rfl (hb hby at_34) rfl k) ?_
    show OwnEnds _ _ _ _ _ _ _ (T1.setTop (mkF m 36 #[.val (.long q1), .second, .val (.long q2), .second, .val (.int p3), .val (.int p4), .val (.long rq), .second, .val (.long nq), .second, .unset, .unset, .unset, .unset, .unset, .unset, .unset, .unset, .unset] [(.long rq), (.ref b1), (.ref b1)]))
    refine OwnEnds.st (fun t k => XS.lload X1.here hx rfl (hb hby at_36) rfl k) ?_
    show OwnEnds _ _ _ _ _ _ _ (T1.setTop (mkF m 38 #[.val (.long q1), .second, .val (.long q2), .second, .val (.int p3), .val (.int p4), .val (.long rq), .second, .val (.long nq), .second, .unset, .unset, .unset, .unset, .unset, .unset, .unset, .unset, .unset] [(.long nq), (.long rq), (.ref b1), (.ref b1)]))
    refine OwnEnds.st (fun t k => XS.iload X1.here hx rfl (hb hby at_38) rfl k) ?_
    show OwnEnds _ _ _ _ _ _ _ (T1.setTop (mkF m 40 #[.val (.long q1), .second, .val (.long q2), .second, .val (.int p3), .val (.int p4), .val (.long rq), .second, .val (.long nq), .second, .unset, .unset, .unset, .unset, .unset, .unset, .unset, .unset, .unset] [(.int p4), (.long nq), (.long rq), (.ref b1), (.ref b1)]))
    have F_requests : Fld Z h1 b1 "com/example/idle_harbor/idleharbor/perf/TimedRun$Tally" "requests" "J" (.long (0 : Int64)) := D1 (Or.inr (hw _ (List.mem_of_getElem? (i := 12) rfl))) (ty := .long) (by decide)
    have F_nanos : Fld Z h1 b1 "com/example/idle_harbor/idleharbor/perf/TimedRun$Tally" "nanos" "J" (.long (0 : Int64)) := D1 (Or.inr (hw _ (List.mem_of_getElem? (i := 14) rfl))) (ty := .long) (by decide)
    have F_backends : Fld Z h1 b1 "com/example/idle_harbor/idleharbor/perf/TimedRun$Tally" "backends" "I" (.int (0 : Int32)) := D1 (Or.inr (hw _ (List.mem_of_getElem? (i := 16) rfl))) (ty := .int) (by decide)
    have gb : n0 ≤ b1 := Nat.le_trans Z0 (Nat.le_of_eq g1.symm)
    have Zb : n0 ≤ h1.size := Nat.le_trans Z0 E1.1
    obtain ⟨_, _, ⟨T2, L2, k2, n2⟩, -, X2, ⟨Lc2, hQ2, l2, y2, z2⟩, st2⟩ := X1.specialBack hx (y := (⟨"com/example/idle_harbor/idleharbor/perf/TimedRun$Tally", "<init>", "(JJI)V"⟩ : MethodName)) rfl hown (mvT hZ (hw _ (List.mem_of_getElem? (i := 5) rfl))) (mvT hZ (hw _ (List.mem_of_getElem? (i := 6) rfl))) (mvT hZ (hw _ (List.mem_of_getElem? (i := 7) rfl))) (by decide) (backOf (W := 1) (rm1 l Z a0 hw [] b1 rq nq p4 _ _ _ h1 n0 Zb A1 gb F_requests F_nanos F_backends) hZ (hw _ (List.mem_of_getElem? (i := 7) rfl)) (hw _ (List.mem_of_getElem? (i := 4) rfl)) (by decide) (by decide)) (g := (mkF m 40 #[.val (.long q1), .second, .val (.long q2), .second, .val (.int p3), .val (.int p4), .val (.long rq), .second, .val (.long nq), .second, .unset, .unset, .unset, .unset, .unset, .unset, .unset, .unset, .unset] [(.int p4), (.long nq), (.long rq), (.ref b1), (.ref b1)])) rfl (by rw [hml]; rfl) (Steps.refl _) (a := b1) (argsL := [(.long rq), (.long nq), (.int p4)]) (rest := [(.ref b1)]) (lenOf pd_1 rfl) rfl (by show 2 * 0 + _ ≤ _; exact Nat.le_of_eq rfl) (hb hby at_40) (fun _ _ => ⟨rfl, e1, (by decide : 1 + 0 ≤ _), (by decide : 3 + 0 ≤ _)⟩)
    dsimp only [Pt.U, Pt.locs, Pt.cells, Pt.slots] at X2 l2 y2 z2 st2 hQ2
    subst l2 y2 z2
    obtain ⟨rfl, N2q, K2, E2, Fq2, Fn2, Fb2⟩ := hQ2
    have N2 := Fr.app N0 N2q
    refine OwnEnds.go st2 ?_
    show OwnEnds _ _ _ _ _ _ _ (T2.setTop (mkF m 43 #[.val (.long q1), .second, .val (.long q2), .second, .val (.int p3), .val (.int p4), .val (.long rq), .second, .val (.long nq), .second, .unset, .unset, .unset, .unset, .unset, .unset, .unset, .unset, .unset] [(.ref b1)]))
    have Zc : n0 ≤ T2.heap.size := Nat.le_trans Zb K2.1
    refine OwnEnds.st (fun t k => XS.astore X2.here hx rfl (hb hby at_43) rfl rfl (l' := #[.val (.long q1), .second, .val (.long q2), .second, .val (.int p3), .val (.int p4), .val (.long rq), .second, .val (.long nq), .second, .val (.ref b1), .unset, .unset, .unset, .unset, .unset, .unset, .unset, .unset]) rfl k) ?_
    show OwnEnds _ _ _ _ _ _ _ (T2.setTop (mkF m 45 #[.val (.long q1), .second, .val (.long q2), .second, .val (.int p3), .val (.int p4), .val (.long rq), .second, .val (.long nq), .second, .val (.ref b1), .unset, .unset, .unset, .unset, .unset, .unset, .unset, .unset] []))
    refine OwnEnds.st (fun t k => XS.lload X2.here hx rfl (hb hby at_45) rfl k) ?_
    show OwnEnds _ _ _ _ _ _ _ (T2.setTop (mkF m 47 #[.val (.long q1), .second, .val (.long q2), .second, .val (.int p3), .val (.int p4), .val (.long rq), .second, .val (.long nq), .second, .val (.ref b1), .unset, .unset, .unset, .unset, .unset, .unset, .unset, .unset] [(.long rq)]))
    refine OwnEnds.st (fun t k => X2.ldc2Long hx hown (mvT hZ (hw _ (List.mem_of_getElem? (i := 17) rfl))) (g := (mkF m 47 #[.val (.long q1), .second, .val (.long q2), .second, .val (.int p3), .val (.int p4), .val (.long rq), .second, .val (.long nq), .second, .val (.ref b1), .unset, .unset, .unset, .unset, .unset, .unset, .unset, .unset] [(.long rq)])) rfl (hb hby at_47) t k) ?_
    show OwnEnds _ _ _ _ _ _ _ (T2.setTop (mkF m 50 #[.val (.long q1), .second, .val (.long q2), .second, .val (.int p3), .val (.int p4), .val (.long rq), .second, .val (.long nq), .second, .val (.ref b1), .unset, .unset, .unset, .unset, .unset, .unset, .unset, .unset] [(.long (1000000000 : Int64)), (.long rq)]))
    refine OwnEnds.st (fun t k => XS.lmul X2.here hx rfl (hb hby at_50) rfl k) ?_
    show OwnEnds _ _ _ _ _ _ _ (T2.setTop (mkF m 51 #[.val (.long q1), .second, .val (.long q2), .second, .val (.int p3), .val (.int p4), .val (.long rq), .second, .val (.long nq), .second, .val (.ref b1), .unset, .unset, .unset, .unset, .unset, .unset, .unset, .unset] [(.long (rq * (1000000000 : Int64)))]))
    refine OwnEnds.st (fun t k => XS.lstore X2.here hx rfl (hb hby at_51) rfl (l' := #[.val (.long q1), .second, .val (.long q2), .second, .val (.int p3), .val (.int p4), .val (.long rq), .second, .val (.long nq), .second, .val (.ref b1), .val (.long (rq * (1000000000 : Int64))), .second, .unset, .unset, .unset, .unset, .unset, .unset]) rfl k) ?_
    show OwnEnds _ _ _ _ _ _ _ (T2.setTop (mkF m 53 #[.val (.long q1), .second, .val (.long q2), .second, .val (.int p3), .val (.int p4), .val (.long rq), .second, .val (.long nq), .second, .val (.ref b1), .val (.long (rq * (1000000000 : Int64))), .second, .unset, .unset, .unset, .unset, .unset, .unset] []))
    refine OwnEnds.st (fun t k => XS.lload X2.here hx rfl (hb hby at_53) rfl k) ?_
    show OwnEnds _ _ _ _ _ _ _ (T2.setTop (mkF m 55 #[.val (.long q1), .second, .val (.long q2), .second, .val (.int p3), .val (.int p4), .val (.long rq), .second, .val (.long nq), .second, .val (.ref b1), .val (.long (rq * (1000000000 : Int64))), .second, .unset, .unset, .unset, .unset, .unset, .unset] [(.long (rq * (1000000000 : Int64)))]))
    refine OwnEnds.st (fun t k => XS.lload X2.here hx rfl (hb hby at_55) rfl k) ?_
    show OwnEnds _ _ _ _ _ _ _ (T2.setTop (mkF m 57 #[.val (.long q1), .second, .val (.long q2), .second, .val (.int p3), .val (.int p4), .val (.long rq), .second, .val (.long nq), .second, .val (.ref b1), .val (.long (rq * (1000000000 : Int64))), .second, .unset, .unset, .unset, .unset, .unset, .unset] [(.long nq), (.long (rq * (1000000000 : Int64)))]))
    refine OwnEnds.st (fun t k => XS.ldiv X2.here hx rfl (hb hby at_57) rfl (own_nz hn0) k) ?_
    show OwnEnds _ _ _ _ _ _ _ (T2.setTop (mkF m 58 #[.val (.long q1), .second, .val (.long q2), .second, .val (.int p3), .val (.int p4), .val (.long rq), .second, .val (.long nq), .second, .val (.ref b1), .val (.long (rq * (1000000000 : Int64))), .second, .unset, .unset, .unset, .unset, .unset, .unset] [(.long ((rq * (1000000000 : Int64)) / nq))]))
    refine OwnEnds.st (fun t k => XS.lstore X2.here hx rfl (hb hby at_58) rfl (l' := #[.val (.long q1), .second, .val (.long q2), .second, .val (.int p3), .val (.int p4), .val (.long rq), .second, .val (.long nq), .second, .val (.ref b1), .val (.long (rq * (1000000000 : Int64))), .second, .val (.long ((rq * (1000000000 : Int64)) / nq)), .second, .unset, .unset, .unset, .unset]) rfl k) ?_
    show OwnEnds _ _ _ _ _ _ _ (T2.setTop (mkF m 60 #[.val (.long q1), .second, .val (.long q2), .second, .val (.int p3), .val (.int p4), .val (.long rq), .second, .val (.long nq), .second, .val (.ref b1), .val (.long (rq * (1000000000 : Int64))), .second, .val (.long ((rq * (1000000000 : Int64)) / nq)), .second, .unset, .unset, .unset, .unset] []))
    refine OwnEnds.st (fun t k => XS.lload X2.here hx rfl (hb hby at_60) rfl k) ?_
    show OwnEnds _ _ _ _ _ _ _ (T2.setTop (mkF m 62 #[.val (.long q1), .second, .val (.long q2), .second, .val (.int p3), .val (.int p4), .val (.long rq), .second, .val (.long nq), .second, .val (.ref b1), .val (.long (rq * (1000000000 : Int64))), .second, .val (.long ((rq * (1000000000 : Int64)) / nq)), .second, .unset, .unset, .unset, .unset] [(.long (rq * (1000000000 : Int64)))]))
    refine OwnEnds.st (fun t k => XS.lload X2.here hx rfl (hb hby at_62) rfl k) ?_
    show OwnEnds _ _ _ _ _ _ _ (T2.setTop (mkF m 64 #[.val (.long q1), .second, .val (.long q2), .second, .val (.int p3), .val (.int p4), .val (.long rq), .second, .val (.long nq), .second, .val (.ref b1), .val (.long (rq * (1000000000 : Int64))), .second, .val (.long ((rq * (1000000000 : Int64)) / nq)), .second, .unset, .unset, .unset, .unset] [(.long nq), (.long (rq * (1000000000 : Int64)))]))
    refine OwnEnds.st (fun t k => XS.lrem X2.here hx rfl (hb hby at_64) rfl (own_nz hn0) k) ?_
    show OwnEnds _ _ _ _ _ _ _ (T2.setTop (mkF m 65 #[.val (.long q1), .second, .val (.long q2), .second, .val (.int p3), .val (.int p4), .val (.long rq), .second, .val (.long nq), .second, .val (.ref b1), .val (.long (rq * (1000000000 : Int64))), .second, .val (.long ((rq * (1000000000 : Int64)) / nq)), .second, .unset, .unset, .unset, .unset] [(.long ((rq * (1000000000 : Int64)) - ((rq * (1000000000 : Int64)) / nq) * nq))]))
    refine OwnEnds.st (fun t k => XS.lstore X2.here hx rfl (hb hby at_65) rfl (l' := #[.val (.long q1), .second, .val (.long q2), .second, .val (.int p3), .val (.int p4), .val (.long rq), .second, .val (.long nq), .second, .val (.ref b1), .val (.long (rq * (1000000000 : Int64))), .second, .val (.long ((rq * (1000000000 : Int64)) / nq)), .second, .val (.long ((rq * (1000000000 : Int64)) - ((rq * (1000000000 : Int64)) / nq) * nq)), .second, .unset, .unset]) rfl k) ?_
    show OwnEnds _ _ _ _ _ _ _ (T2.setTop (mkF m 67 #[.val (.long q1), .second, .val (.long q2), .second, .val (.int p3), .val (.int p4), .val (.long rq), .second, .val (.long nq), .second, .val (.ref b1), .val (.long (rq * (1000000000 : Int64))), .second, .val (.long ((rq * (1000000000 : Int64)) / nq)), .second, .val (.long ((rq * (1000000000 : Int64)) - ((rq * (1000000000 : Int64)) / nq) * nq)), .second, .unset, .unset] []))
    refine OwnEnds.st (fun t k => XS.lload X2.here hx rfl (hb hby at_67) rfl k) ?_
    show OwnEnds _ _ _ _ _ _ _ (T2.setTop (mkF m 69 #[.val (.long q1), .second, .val (.long q2), .second, .val (.int p3), .val (.int p4), .val (.long rq), .second, .val (.long nq), .second, .val (.ref b1), .val (.long (rq * (1000000000 : Int64))), .second, .val (.long ((rq * (1000000000 : Int64)) / nq)), .second, .val (.long ((rq * (1000000000 : Int64)) - ((rq * (1000000000 : Int64)) / nq) * nq)), .second, .unset, .unset] [(.long ((rq * (1000000000 : Int64)) - ((rq * (1000000000 : Int64)) / nq) * nq))]))
    refine OwnEnds.st (fun t k => XS.lload X2.here hx rfl (hb hby at_69) rfl k) ?_
    show OwnEnds _ _ _ _ _ _ _ (T2.setTop (mkF m 71 #[.val (.long q1), .second, .val (.long q2), .second, .val (.int p3), .val (.int p4), .val (.long rq), .second, .val (.long nq), .second, .val (.ref b1), .val (.long (rq * (1000000000 : Int64))), .second, .val (.long ((rq * (1000000000 : Int64)) / nq)), .second, .val (.long ((rq * (1000000000 : Int64)) - ((rq * (1000000000 : Int64)) / nq) * nq)), .second, .unset, .unset] [(.long nq), (.long ((rq * (1000000000 : Int64)) - ((rq * (1000000000 : Int64)) / nq) * nq))]))
    refine OwnEnds.st (fun t k => XS.lload X2.here hx rfl (hb hby at_71) rfl k) ?_
    show OwnEnds _ _ _ _ _ _ _ (T2.setTop (mkF m 73 #[.val (.long q1), .second, .val (.long q2), .second, .val (.int p3), .val (.int p4), .val (.long rq), .second, .val (.long nq), .second, .val (.ref b1), .val (.long (rq * (1000000000 : Int64))), .second, .val (.long ((rq * (1000000000 : Int64)) / nq)), .second, .val (.long ((rq * (1000000000 : Int64)) - ((rq * (1000000000 : Int64)) / nq) * nq)), .second, .unset, .unset] [(.long ((rq * (1000000000 : Int64)) - ((rq * (1000000000 : Int64)) / nq) * nq)), (.long nq), (.long ((rq * (1000000000 : Int64)) - ((rq * (1000000000 : Int64)) / nq) * nq))]))
    refine OwnEnds.st (fun t k => XS.lsub X2.here hx rfl (hb hby at_73) rfl k) ?_
    show OwnEnds _ _ _ _ _ _ _ (T2.setTop (mkF m 74 #[.val (.long q1), .second, .val (.long q2), .second, .val (.int p3), .val (.int p4), .val (.long rq), .second, .val (.long nq), .second, .val (.ref b1), .val (.long (rq * (1000000000 : Int64))), .second, .val (.long ((rq * (1000000000 : Int64)) / nq)), .second, .val (.long ((rq * (1000000000 : Int64)) - ((rq * (1000000000 : Int64)) / nq) * nq)), .second, .unset, .unset] [(.long (nq - ((rq * (1000000000 : Int64)) - ((rq * (1000000000 : Int64)) / nq) * nq))), (.long ((rq * (1000000000 : Int64)) - ((rq * (1000000000 : Int64)) / nq) * nq))]))
    refine OwnEnds.st (fun t k => XS.lcmp X2.here hx rfl (hb hby at_74) rfl k) ?_
    show OwnEnds _ _ _ _ _ _ _ (T2.setTop (mkF m 75 #[.val (.long q1), .second, .val (.long q2), .second, .val (.int p3), .val (.int p4), .val (.long rq), .second, .val (.long nq), .second, .val (.ref b1), .val (.long (rq * (1000000000 : Int64))), .second, .val (.long ((rq * (1000000000 : Int64)) / nq)), .second, .val (.long ((rq * (1000000000 : Int64)) - ((rq * (1000000000 : Int64)) / nq) * nq)), .second, .unset, .unset] [(.int (lcmpW ((rq * (1000000000 : Int64)) - ((rq * (1000000000 : Int64)) / nq) * nq) (nq - ((rq * (1000000000 : Int64)) - ((rq * (1000000000 : Int64)) / nq) * nq))))]))
    by_cases hr : ((rq * (1000000000 : Int64)) - ((rq * (1000000000 : Int64)) / nq) * nq) < (nq - ((rq * (1000000000 : Int64)) - ((rq * (1000000000 : Int64)) / nq) * nq))
    · refine OwnEnds.st (fun t k => XS.ifYes X2.here hx rfl (pc0 := 75) (pc' := 85) rfl (hb hby at_75) rfl ((if0 _ _).trans (tlt (own_lclt hr : (lcmpW ((rq * (1000000000 : Int64)) - ((rq * (1000000000 : Int64)) / nq) * nq) (nq - ((rq * (1000000000 : Int64)) - ((rq * (1000000000 : Int64)) / nq) * nq))) < (0 : Int32))).1) (by decide) (by decide) k) ?_
      show OwnEnds _ _ _ _ _ _ _ (T2.setTop (mkF m 85 #[.val (.long q1), .second, .val (.long q2), .second, .val (.int p3), .val (.int p4), .val (.long rq), .second, .val (.long nq), .second, .val (.ref b1), .val (.long (rq * (1000000000 : Int64))), .second, .val (.long ((rq * (1000000000 : Int64)) / nq)), .second, .val (.long ((rq * (1000000000 : Int64)) - ((rq * (1000000000 : Int64)) / nq) * nq)), .second, .unset, .unset] []))
      refine OwnEnds.st (fun t k => XS.lload X2.here hx rfl (hb hby at_85) rfl k) ?_
      show OwnEnds _ _ _ _ _ _ _ (T2.setTop (mkF m 87 #[.val (.long q1), .second, .val (.long q2), .second, .val (.int p3), .val (.int p4), .val (.long rq), .second, .val (.long nq), .second, .val (.ref b1), .val (.long (rq * (1000000000 : Int64))), .second, .val (.long ((rq * (1000000000 : Int64)) / nq)), .second, .val (.long ((rq * (1000000000 : Int64)) - ((rq * (1000000000 : Int64)) / nq) * nq)), .second, .unset, .unset] [(.long ((rq * (1000000000 : Int64)) / nq))]))
      refine OwnEnds.st (fun t k => XS.lstore X2.here hx rfl (hb hby at_87) rfl (l' := #[.val (.long q1), .second, .val (.long q2), .second, .val (.int p3), .val (.int p4), .val (.long rq), .second, .val (.long nq), .second, .val (.ref b1), .val (.long (rq * (1000000000 : Int64))), .second, .val (.long ((rq * (1000000000 : Int64)) / nq)), .second, .val (.long ((rq * (1000000000 : Int64)) - ((rq * (1000000000 : Int64)) / nq) * nq)), .second, .val (.long ((rq * (1000000000 : Int64)) / nq)), .second]) rfl k) ?_
      show OwnEnds _ _ _ _ _ _ _ (T2.setTop (mkF m 89 #[.val (.long q1), .second, .val (.long q2), .second, .val (.int p3), .val (.int p4), .val (.long rq), .second, .val (.long nq), .second, .val (.ref b1), .val (.long (rq * (1000000000 : Int64))), .second, .val (.long ((rq * (1000000000 : Int64)) / nq)), .second, .val (.long ((rq * (1000000000 : Int64)) - ((rq * (1000000000 : Int64)) / nq) * nq)), .second, .val (.long ((rq * (1000000000 : Int64)) / nq)), .second] []))
      refine OwnEnds.st (fun t k => XS.aload X2.here hx rfl (hb hby at_89) rfl rfl k) ?_
      show OwnEnds _ _ _ _ _ _ _ (T2.setTop (mkF m 91 #[.val (.long q1), .second, .val (.long q2), .second, .val (.int p3), .val (.int p4), .val (.long rq), .second, .val (.long nq), .second, .val (.ref b1), .val (.long (rq * (1000000000 : Int64))), .second, .val (.long ((rq * (1000000000 : Int64)) / nq)), .second, .val (.long ((rq * (1000000000 : Int64)) - ((rq * (1000000000 : Int64)) / nq) * nq)), .second, .val (.long ((rq * (1000000000 : Int64)) / nq)), .second] [(.ref b1)]))
      obtain ⟨cq3, kq3, q3a, q3b, q3c⟩ := isOf hZ rfl (E2)
      obtain ⟨_, _, ⟨T3, L3, k3, n3⟩, -, X3, ⟨Lc3, hQ3, l3, y3, z3⟩, st3⟩ := X2.virtualBack hx (y := (⟨"com/example/idle_harbor/idleharbor/perf/TimedRun$Tally", "perSecond", "()J"⟩ : MethodName)) (z := (⟨"com/example/idle_harbor/idleharbor/perf/TimedRun$Tally", "perSecond", "()J"⟩ : MethodName)) hown (mvT hZ (hw _ (List.mem_of_getElem? (i := 18) rfl))) (mvT hZ (hw _ (List.mem_of_getElem? (i := 19) rfl))) (notFace_of_selects (args := #[]) (mvT hZ (hw _ (List.mem_of_getElem? (i := 21) rfl)))) (mvT hZ (hw _ (List.mem_of_getElem? (i := 21) rfl))) (mvT hZ (hw _ (List.mem_of_getElem? (i := 20) rfl))) (by decide) (backOf (W := 0) (rm3 l Z a0 hw [] b1 rq nq T2.heap n0 Zc Fq2 Fn2 hq0 hq1 hn0 hn1) hZ (hw _ (List.mem_of_getElem? (i := 22) rfl)) (hw _ (List.mem_of_getElem? (i := 4) rfl)) (by decide) (by decide)) q3a q3c (g := (mkF m 91 #[.val (.long q1), .second, .val (.long q2), .second, .val (.int p3), .val (.int p4), .val (.long rq), .second, .val (.long nq), .second, .val (.ref b1), .val (.long (rq * (1000000000 : Int64))), .second, .val (.long ((rq * (1000000000 : Int64)) / nq)), .second, .val (.long ((rq * (1000000000 : Int64)) - ((rq * (1000000000 : Int64)) / nq) * nq)), .second, .val (.long ((rq * (1000000000 : Int64)) / nq)), .second] [(.ref b1)])) rfl (by rw [hml]; rfl) (Steps.refl _) (argsL := []) (rest := []) (lenOf pd_2 rfl) rfl (by show 2 * 0 + _ ≤ _; exact Nat.le_of_eq rfl) (hb hby at_91) (fun _ _ => ⟨rfl, rfl, (by decide : 1 + 0 ≤ _), (by decide : 3 + 0 ≤ _)⟩)
      dsimp only [Pt.U, Pt.locs, Pt.cells, Pt.slots] at X3 l3 y3 z3 st3 hQ3
      subst l3 y3 z3
      obtain ⟨rfl, N3q, hh3⟩ := hQ3
      have N3 := Fr.app N2 N3q
      refine OwnEnds.go st3 ?_
      show OwnEnds _ _ _ _ _ _ _ (T3.setTop (mkF m 94 #[.val (.long q1), .second, .val (.long q2), .second, .val (.int p3), .val (.int p4), .val (.long rq), .second, .val (.long nq), .second, .val (.ref b1), .val (.long (rq * (1000000000 : Int64))), .second, .val (.long ((rq * (1000000000 : Int64)) / nq)), .second, .val (.long ((rq * (1000000000 : Int64)) - ((rq * (1000000000 : Int64)) / nq) * nq)), .second, .val (.long ((rq * (1000000000 : Int64)) / nq)), .second] [(.long (Jvm.FP.Core.OwnFl.rnd (FP.ddiv (FP.l2d (rq * (1000000000 : Int64))) (FP.l2d nq))))]))
      refine OwnEnds.st (fun t k => XS.lload X3.here hx rfl (hb hby at_94) rfl k) ?_
      show OwnEnds _ _ _ _ _ _ _ (T3.setTop (mkF m 96 #[.val (.long q1), .second, .val (.long q2), .second, .val (.int p3), .val (.int p4), .val (.long rq), .second, .val (.long nq), .second, .val (.ref b1), .val (.long (rq * (1000000000 : Int64))), .second, .val (.long ((rq * (1000000000 : Int64)) / nq)), .second, .val (.long ((rq * (1000000000 : Int64)) - ((rq * (1000000000 : Int64)) / nq) * nq)), .second, .val (.long ((rq * (1000000000 : Int64)) / nq)), .second] [(.long ((rq * (1000000000 : Int64)) / nq)), (.long (Jvm.FP.Core.OwnFl.rnd (FP.ddiv (FP.l2d (rq * (1000000000 : Int64))) (FP.l2d nq))))]))
      refine OwnEnds.st (fun t k => XS.lcmp X3.here hx rfl (hb hby at_96) rfl k) ?_
      show OwnEnds _ _ _ _ _ _ _ (T3.setTop (mkF m 97 #[.val (.long q1), .second, .val (.long q2), .second, .val (.int p3), .val (.int p4), .val (.long rq), .second, .val (.long nq), .second, .val (.ref b1), .val (.long (rq * (1000000000 : Int64))), .second, .val (.long ((rq * (1000000000 : Int64)) / nq)), .second, .val (.long ((rq * (1000000000 : Int64)) - ((rq * (1000000000 : Int64)) / nq) * nq)), .second, .val (.long ((rq * (1000000000 : Int64)) / nq)), .second] [(.int (lcmpW (Jvm.FP.Core.OwnFl.rnd (FP.ddiv (FP.l2d (rq * (1000000000 : Int64))) (FP.l2d nq))) ((rq * (1000000000 : Int64)) / nq)))]))
      refine OwnEnds.st (fun t k => XS.ifNo X3.here hx rfl (hb hby at_97) rfl ((if0 _ _).trans (teq (own_lc0 (own_eqB hq0 hq1 hn0 hn1 hr) : (lcmpW (Jvm.FP.Core.OwnFl.rnd (FP.ddiv (FP.l2d (rq * (1000000000 : Int64))) (FP.l2d nq))) ((rq * (1000000000 : Int64)) / nq)) = (0 : Int32))).2) k) ?_
      show OwnEnds _ _ _ _ _ _ _ (T3.setTop (mkF m 100 #[.val (.long q1), .second, .val (.long q2), .second, .val (.int p3), .val (.int p4), .val (.long rq), .second, .val (.long nq), .second, .val (.ref b1), .val (.long (rq * (1000000000 : Int64))), .second, .val (.long ((rq * (1000000000 : Int64)) / nq)), .second, .val (.long ((rq * (1000000000 : Int64)) - ((rq * (1000000000 : Int64)) / nq) * nq)), .second, .val (.long ((rq * (1000000000 : Int64)) / nq)), .second] []))
      refine OwnEnds.st (fun t k => XS.iconst X3.here hx rfl (hb hby at_100) k) ?_
      show OwnEnds _ _ _ _ _ _ _ (T3.setTop (mkF m 101 #[.val (.long q1), .second, .val (.long q2), .second, .val (.int p3), .val (.int p4), .val (.long rq), .second, .val (.long nq), .second, .val (.ref b1), .val (.long (rq * (1000000000 : Int64))), .second, .val (.long ((rq * (1000000000 : Int64)) / nq)), .second, .val (.long ((rq * (1000000000 : Int64)) - ((rq * (1000000000 : Int64)) / nq) * nq)), .second, .val (.long ((rq * (1000000000 : Int64)) / nq)), .second] [(.int (1 : Int32))]))
      refine OwnEnds.st (fun t k => XS.goto X3.here hx rfl (pc0 := 101) (pc' := 105) rfl (hb hby at_101) (by decide) (by decide) k) ?_
      show OwnEnds _ _ _ _ _ _ _ (T3.setTop (mkF m 105 #[.val (.long q1), .second, .val (.long q2), .second, .val (.int p3), .val (.int p4), .val (.long rq), .second, .val (.long nq), .second, .val (.ref b1), .val (.long (rq * (1000000000 : Int64))), .second, .val (.long ((rq * (1000000000 : Int64)) / nq)), .second, .val (.long ((rq * (1000000000 : Int64)) - ((rq * (1000000000 : Int64)) / nq) * nq)), .second, .val (.long ((rq * (1000000000 : Int64)) / nq)), .second] [(.int (1 : Int32))]))
      refine own_retN (t := .boolean) X3 hx Bd.returns Bd.notSynchronized (by simp) (hb hby at_105) ?_ (by decide) (by decide)
      show Q0 Z q1 q2 p3 p4 h0 n0 _ T3.heap _
      exact ⟨rfl, N3⟩
    · refine OwnEnds.st (fun t k => XS.ifNo X2.here hx rfl (hb hby at_75) rfl ((if0 _ _).trans (flt (own_lcge hr : ¬ ((lcmpW ((rq * (1000000000 : Int64)) - ((rq * (1000000000 : Int64)) / nq) * nq) (nq - ((rq * (1000000000 : Int64)) - ((rq * (1000000000 : Int64)) / nq) * nq))) < (0 : Int32)))).1) k) ?_
      show OwnEnds _ _ _ _ _ _ _ (T2.setTop (mkF m 78 #[.val (.long q1), .second, .val (.long q2), .second, .val (.int p3), .val (.int p4), .val (.long rq), .second, .val (.long nq), .second, .val (.ref b1), .val (.long (rq * (1000000000 : Int64))), .second, .val (.long ((rq * (1000000000 : Int64)) / nq)), .second, .val (.long ((rq * (1000000000 : Int64)) - ((rq * (1000000000 : Int64)) / nq) * nq)), .second, .unset, .unset] []))
      refine OwnEnds.st (fun t k => XS.lload X2.here hx rfl (hb hby at_78) rfl k) ?_
      show OwnEnds _ _ _ _ _ _ _ (T2.setTop (mkF m 80 #[.val (.long q1), .second, .val (.long q2), .second, .val (.int p3), .val (.int p4), .val (.long rq), .second, .val (.long nq), .second, .val (.ref b1), .val (.long (rq * (1000000000 : Int64))), .second, .val (.long ((rq * (1000000000 : Int64)) / nq)), .second, .val (.long ((rq * (1000000000 : Int64)) - ((rq * (1000000000 : Int64)) / nq) * nq)), .second, .unset, .unset] [(.long ((rq * (1000000000 : Int64)) / nq))]))
      refine OwnEnds.st (fun t k => XS.lconst X2.here hx rfl (hb hby at_80) k) ?_
      show OwnEnds _ _ _ _ _ _ _ (T2.setTop (mkF m 81 #[.val (.long q1), .second, .val (.long q2), .second, .val (.int p3), .val (.int p4), .val (.long rq), .second, .val (.long nq), .second, .val (.ref b1), .val (.long (rq * (1000000000 : Int64))), .second, .val (.long ((rq * (1000000000 : Int64)) / nq)), .second, .val (.long ((rq * (1000000000 : Int64)) - ((rq * (1000000000 : Int64)) / nq) * nq)), .second, .unset, .unset] [(.long (1 : Int64)), (.long ((rq * (1000000000 : Int64)) / nq))]))
      refine OwnEnds.st (fun t k => XS.ladd X2.here hx rfl (hb hby at_81) rfl k) ?_
      show OwnEnds _ _ _ _ _ _ _ (T2.setTop (mkF m 82 #[.val (.long q1), .second, .val (.long q2), .second, .val (.int p3), .val (.int p4), .val (.long rq), .second, .val (.long nq), .second, .val (.ref b1), .val (.long (rq * (1000000000 : Int64))), .second, .val (.long ((rq * (1000000000 : Int64)) / nq)), .second, .val (.long ((rq * (1000000000 : Int64)) - ((rq * (1000000000 : Int64)) / nq) * nq)), .second, .unset, .unset] [(.long (((rq * (1000000000 : Int64)) / nq) + (1 : Int64)))]))
      refine OwnEnds.st (fun t k => XS.goto X2.here hx rfl (pc0 := 82) (pc' := 87) rfl (hb hby at_82) (by decide) (by decide) k) ?_
      show OwnEnds _ _ _ _ _ _ _ (T2.setTop (mkF m 87 #[.val (.long q1), .second, .val (.long q2), .second, .val (.int p3), .val (.int p4), .val (.long rq), .second, .val (.long nq), .second, .val (.ref b1), .val (.long (rq * (1000000000 : Int64))), .second, .val (.long ((rq * (1000000000 : Int64)) / nq)), .second, .val (.long ((rq * (1000000000 : Int64)) - ((rq * (1000000000 : Int64)) / nq) * nq)), .second, .unset, .unset] [(.long (((rq * (1000000000 : Int64)) / nq) + (1 : Int64)))]))
      refine OwnEnds.st (fun t k => XS.lstore X2.here hx rfl (hb hby at_87) rfl (l' := #[.val (.long q1), .second, .val (.long q2), .second, .val (.int p3), .val (.int p4), .val (.long rq), .second, .val (.long nq), .second, .val (.ref b1), .val (.long (rq * (1000000000 : Int64))), .second, .val (.long ((rq * (1000000000 : Int64)) / nq)), .second, .val (.long ((rq * (1000000000 : Int64)) - ((rq * (1000000000 : Int64)) / nq) * nq)), .second, .val (.long (((rq * (1000000000 : Int64)) / nq) + (1 : Int64))), .second]) rfl k) ?_
      show OwnEnds _ _ _ _ _ _ _ (T2.setTop (mkF m 89 #[.val (.long q1), .second, .val (.long q2), .second, .val (.int p3), .val (.int p4), .val (.long rq), .second, .val (.long nq), .second, .val (.ref b1), .val (.long (rq * (1000000000 : Int64))), .second, .val (.long ((rq * (1000000000 : Int64)) / nq)), .second, .val (.long ((rq * (1000000000 : Int64)) - ((rq * (1000000000 : Int64)) / nq) * nq)), .second, .val (.long (((rq * (1000000000 : Int64)) / nq) + (1 : Int64))), .second] []))
      refine OwnEnds.st (fun t k => XS.aload X2.here hx rfl (hb hby at_89) rfl rfl k) ?_
      show OwnEnds _ _ _ _ _ _ _ (T2.setTop (mkF m 91 #[.val (.long q1), .second, .val (.long q2), .second, .val (.int p3), .val (.int p4), .val (.long rq), .second, .val (.long nq), .second, .val (.ref b1), .val (.long (rq * (1000000000 : Int64))), .second, .val (.long ((rq * (1000000000 : Int64)) / nq)), .second, .val (.long ((rq * (1000000000 : Int64)) - ((rq * (1000000000 : Int64)) / nq) * nq)), .second, .val (.long (((rq * (1000000000 : Int64)) / nq) + (1 : Int64))), .second] [(.ref b1)]))
      obtain ⟨cq4, kq4, q4a, q4b, q4c⟩ := isOf hZ rfl (E2)
      obtain ⟨_, _, ⟨T4, L4, k4, n4⟩, -, X4, ⟨Lc4, hQ4, l4, y4, z4⟩, st4⟩ := X2.virtualBack hx (y := (⟨"com/example/idle_harbor/idleharbor/perf/TimedRun$Tally", "perSecond", "()J"⟩ : MethodName)) (z := (⟨"com/example/idle_harbor/idleharbor/perf/TimedRun$Tally", "perSecond", "()J"⟩ : MethodName)) hown (mvT hZ (hw _ (List.mem_of_getElem? (i := 18) rfl))) (mvT hZ (hw _ (List.mem_of_getElem? (i := 19) rfl))) (notFace_of_selects (args := #[]) (mvT hZ (hw _ (List.mem_of_getElem? (i := 21) rfl)))) (mvT hZ (hw _ (List.mem_of_getElem? (i := 21) rfl))) (mvT hZ (hw _ (List.mem_of_getElem? (i := 20) rfl))) (by decide) (backOf (W := 0) (rm3 l Z a0 hw [] b1 rq nq T2.heap n0 Zc Fq2 Fn2 hq0 hq1 hn0 hn1) hZ (hw _ (List.mem_of_getElem? (i := 22) rfl)) (hw _ (List.mem_of_getElem? (i := 4) rfl)) (by decide) (by decide)) q4a q4c (g := (mkF m 91 #[.val (.long q1), .second, .val (.long q2), .second, .val (.int p3), .val (.int p4), .val (.long rq), .second, .val (.long nq), .second, .val (.ref b1), .val (.long (rq * (1000000000 : Int64))), .second, .val (.long ((rq * (1000000000 : Int64)) / nq)), .second, .val (.long ((rq * (1000000000 : Int64)) - ((rq * (1000000000 : Int64)) / nq) * nq)), .second, .val (.long (((rq * (1000000000 : Int64)) / nq) + (1 : Int64))), .second] [(.ref b1)])) rfl (by rw [hml]; rfl) (Steps.refl _) (argsL := []) (rest := []) (lenOf pd_2 rfl) rfl (by show 2 * 0 + _ ≤ _; exact Nat.le_of_eq rfl) (hb hby at_91) (fun _ _ => ⟨rfl, rfl, (by decide : 1 + 0 ≤ _), (by decide : 3 + 0 ≤ _)⟩)
      dsimp only [Pt.U, Pt.locs, Pt.cells, Pt.slots] at X4 l4 y4 z4 st4 hQ4
      subst l4 y4 z4
      obtain ⟨rfl, N4q, hh4⟩ := hQ4
      have N4 := Fr.app N2 N4q
      refine OwnEnds.go st4 ?_
      show OwnEnds _ _ _ _ _ _ _ (T4.setTop (mkF m 94 #[.val (.long q1), .second, .val (.long q2), .second, .val (.int p3), .val (.int p4), .val (.long rq), .second, .val (.long nq), .second, .val (.ref b1), .val (.long (rq * (1000000000 : Int64))), .second, .val (.long ((rq * (1000000000 : Int64)) / nq)), .second, .val (.long ((rq * (1000000000 : Int64)) - ((rq * (1000000000 : Int64)) / nq) * nq)), .second, .val (.long (((rq * (1000000000 : Int64)) / nq) + (1 : Int64))), .second] [(.long (Jvm.FP.Core.OwnFl.rnd (FP.ddiv (FP.l2d (rq * (1000000000 : Int64))) (FP.l2d nq))))]))
      refine OwnEnds.st (fun t k => XS.lload X4.here hx rfl (hb hby at_94) rfl k) ?_
      show OwnEnds _ _ _ _ _ _ _ (T4.setTop (mkF m 96 #[.val (.long q1), .second, .val (.long q2), .second, .val (.int p3), .val (.int p4), .val (.long rq), .second, .val (.long nq), .second, .val (.ref b1), .val (.long (rq * (1000000000 : Int64))), .second, .val (.long ((rq * (1000000000 : Int64)) / nq)), .second, .val (.long ((rq * (1000000000 : Int64)) - ((rq * (1000000000 : Int64)) / nq) * nq)), .second, .val (.long (((rq * (1000000000 : Int64)) / nq) + (1 : Int64))), .second] [(.long (((rq * (1000000000 : Int64)) / nq) + (1 : Int64))), (.long (Jvm.FP.Core.OwnFl.rnd (FP.ddiv (FP.l2d (rq * (1000000000 : Int64))) (FP.l2d nq))))]))
      refine OwnEnds.st (fun t k => XS.lcmp X4.here hx rfl (hb hby at_96) rfl k) ?_
      show OwnEnds _ _ _ _ _ _ _ (T4.setTop (mkF m 97 #[.val (.long q1), .second, .val (.long q2), .second, .val (.int p3), .val (.int p4), .val (.long rq), .second, .val (.long nq), .second, .val (.ref b1), .val (.long (rq * (1000000000 : Int64))), .second, .val (.long ((rq * (1000000000 : Int64)) / nq)), .second, .val (.long ((rq * (1000000000 : Int64)) - ((rq * (1000000000 : Int64)) / nq) * nq)), .second, .val (.long (((rq * (1000000000 : Int64)) / nq) + (1 : Int64))), .second] [(.int (lcmpW (Jvm.FP.Core.OwnFl.rnd (FP.ddiv (FP.l2d (rq * (1000000000 : Int64))) (FP.l2d nq))) (((rq * (1000000000 : Int64)) / nq) + (1 : Int64))))]))
      refine OwnEnds.st (fun t k => XS.ifNo X4.here hx rfl (hb hby at_97) rfl ((if0 _ _).trans (teq (own_lc0 (own_eqA hq0 hq1 hn0 hn1 hr) : (lcmpW (Jvm.FP.Core.OwnFl.rnd (FP.ddiv (FP.l2d (rq * (1000000000 : Int64))) (FP.l2d nq))) (((rq * (1000000000 : Int64)) / nq) + (1 : Int64))) = (0 : Int32))).2) k) ?_
      show OwnEnds _ _ _ _ _ _ _ (T4.setTop (mkF m 100 #[.val (.long q1), .second, .val (.long q2), .second, .val (.int p3), .val (.int p4), .val (.long rq), .second, .val (.long nq), .second, .val (.ref b1), .val (.long (rq * (1000000000 : Int64))), .second, .val (.long ((rq * (1000000000 : Int64)) / nq)), .second, .val (.long ((rq * (1000000000 : Int64)) - ((rq * (1000000000 : Int64)) / nq) * nq)), .second, .val (.long (((rq * (1000000000 : Int64)) / nq) + (1 : Int64))), .second] []))
      refine OwnEnds.st (fun t k => XS.iconst X4.here hx rfl (hb hby at_100) k) ?_
      show OwnEnds _ _ _ _ _ _ _ (T4.setTop (mkF m 101 #[.val (.long q1), .second, .val (.long q2), .second, .val (.int p3), .val (.int p4), .val (.long rq), .second, .val (.long nq), .second, .val (.ref b1), .val (.long (rq * (1000000000 : Int64))), .second, .val (.long ((rq * (1000000000 : Int64)) / nq)), .second, .val (.long ((rq * (1000000000 : Int64)) - ((rq * (1000000000 : Int64)) / nq) * nq)), .second, .val (.long (((rq * (1000000000 : Int64)) / nq) + (1 : Int64))), .second] [(.int (1 : Int32))]))
      refine OwnEnds.st (fun t k => XS.goto X4.here hx rfl (pc0 := 101) (pc' := 105) rfl (hb hby at_101) (by decide) (by decide) k) ?_
      show OwnEnds _ _ _ _ _ _ _ (T4.setTop (mkF m 105 #[.val (.long q1), .second, .val (.long q2), .second, .val (.int p3), .val (.int p4), .val (.long rq), .second, .val (.long nq), .second, .val (.ref b1), .val (.long (rq * (1000000000 : Int64))), .second, .val (.long ((rq * (1000000000 : Int64)) / nq)), .second, .val (.long ((rq * (1000000000 : Int64)) - ((rq * (1000000000 : Int64)) / nq) * nq)), .second, .val (.long (((rq * (1000000000 : Int64)) / nq) + (1 : Int64))), .second] [(.int (1 : Int32))]))
      refine own_retN (t := .boolean) X4 hx Bd.returns Bd.notSynchronized (by simp) (hb hby at_105) ?_ (by decide) (by decide)
      show Q0 Z q1 q2 p3 p4 h0 n0 _ T4.heap _
      exact ⟨rfl, N4⟩
  by_cases hz : (((q2 &&& (9007199254740991 : Int64)).toUInt64 >>> ((p3 &&& (63 : Int32)) &&& 0x3f).toInt64.toUInt64).toInt64) = 0
  · have hn0' : 0 < (1 : Int64).toInt := by decide
    have hn1' : (1 : Int64).toInt < 9007199254740992 := by decide
    refine OwnEnds.st (fun t k => XS.ifNo X0.here hx rfl (hb hby at_24) rfl ((if0 _ _).trans (teq (own_lc0 hz : (lcmpW (((q2 &&& (9007199254740991 : Int64)).toUInt64 >>> ((p3 &&& (63 : Int32)) &&& 0x3f).toInt64.toUInt64).toInt64) (0 : Int64)) = (0 : Int32))).2) k) ?_
    show OwnEnds _ _ _ _ _ _ _ (s₁.setTop (mkF m 27 #[.val (.long q1), .second, .val (.long q2), .second, .val (.int p3), .val (.int p4), .val (.long rq), .second, .val (.long (((q2 &&& (9007199254740991 : Int64)).toUInt64 >>> ((p3 &&& (63 : Int32)) &&& 0x3f).toInt64.toUInt64).toInt64)), .second, .unset, .unset, .unset, .unset, .unset, .unset, .unset, .unset, .unset] []))
    refine OwnEnds.st (fun t k => XS.lconst X0.here hx rfl (hb hby at_27) k) ?_
    show OwnEnds _ _ _ _ _ _ _ (s₁.setTop (mkF m 28 #[.val (.long q1), .second, .val (.long q2), .second, .val (.int p3), .val (.int p4), .val (.long rq), .second, .val (.long (((q2 &&& (9007199254740991 : Int64)).toUInt64 >>> ((p3 &&& (63 : Int32)) &&& 0x3f).toInt64.toUInt64).toInt64)), .second, .unset, .unset, .unset, .unset, .unset, .unset, .unset, .unset, .unset] [(.long (1 : Int64))]))
    refine OwnEnds.st (fun t k => XS.lstore X0.here hx rfl (hb hby at_28) rfl (l' := #[.val (.long q1), .second, .val (.long q2), .second, .val (.int p3), .val (.int p4), .val (.long rq), .second, .val (.long (1 : Int64)), .second, .unset, .unset, .unset, .unset, .unset, .unset, .unset, .unset, .unset]) rfl k) ?_
    show OwnEnds _ _ _ _ _ _ _ (s₁.setTop (mkF m 30 #[.val (.long q1), .second, .val (.long q2), .second, .val (.int p3), .val (.int p4), .val (.long rq), .second, .val (.long (1 : Int64)), .second, .unset, .unset, .unset, .unset, .unset, .unset, .unset, .unset, .unset] []))
    exact j30 _ hn0' hn1'
  · obtain ⟨hn0', hn1'⟩ := own_rng2 hz
    refine OwnEnds.st (fun t k => XS.ifYes X0.here hx rfl (pc0 := 24) (pc' := 30) rfl (hb hby at_24) rfl ((if0 _ _).trans (feq (own_lc1 hz : ¬ ((lcmpW (((q2 &&& (9007199254740991 : Int64)).toUInt64 >>> ((p3 &&& (63 : Int32)) &&& 0x3f).toInt64.toUInt64).toInt64) (0 : Int64)) = (0 : Int32)))).2) (by decide) (by decide) k) ?_
    show OwnEnds _ _ _ _ _ _ _ (s₁.setTop (mkF m 30 #[.val (.long q1), .second, .val (.long q2), .second, .val (.int p3), .val (.int p4), .val (.long rq), .second, .val (.long (((q2 &&& (9007199254740991 : Int64)).toUInt64 >>> ((p3 &&& (63 : Int32)) &&& 0x3f).toInt64.toUInt64).toInt64)), .second, .unset, .unset, .unset, .unset, .unset, .unset, .unset, .unset, .unset] []))
    exact j30 _ hn0' hn1'
set_option maxRecDepth 65536 in
set_option maxHeartbeats 40000000 in
theorem comes_1 {Post : Tables → Env → Array Value → State → Outcome → State → Prop} (hpost : ∀ tb e args s v u, (limb_1_1.after args s (.returned v) u = true ∧ limb_1_2.after args s (.returned v) u = true ∧ True) → FrameEnd s (.returned v) u (Jvm.fieldLocs frame_1_writes args s ++ Jvm.arrayLocs frame_1_arrays args s ++ Jvm.staticLocs frame_1_statics s) 16 128 → Post tb e args s (.returned v) u) :
    ArmFor flags0 classFile x code maxLocals ret World_1 tables_1 room_1 Calls_1 rest_1 Pre_1 Post := by
  intro l hfl _ _ p e ha hc hk s m args below hf hA hF happ hP
  obtain ⟨hcalls, hrest, hpre⟩ := hP
  obtain ⟨-, -, -, hnamed, -, -, -, hat⟩ := (Spec.applies_iff hf).mp happ
  obtain ⟨hg, hn⟩ := and_e (Cond.before_iff.mp (show (Jvm.Cond.and given_1 narrow_1).before args s = true from hpre))
  obtain ⟨hcount, ga0⟩ := and_e hg
  obtain ⟨gb0, ga1⟩ := and_e ga0
  obtain ⟨gb1, ga2⟩ := and_e ga1
  obtain ⟨gb2, ga3⟩ := and_e ga2
  obtain ⟨w0, w1, w2, w3, rfl⟩ : ∃ w0 w1 w2 w3 : Value, args = #[w0, w1, w2, w3] := by
    have hs : args.size = 4 := by simpa [Cond.value, given_1] using hcount
    obtain ⟨L⟩ := args
    match L, hs with
    | [w0, w1, w2, w3], _ => exact ⟨w0, w1, w2, w3, rfl⟩
  have hw := fun d (hd : d ∈ tables_1) => atoms_spec (ws := Jvm.Cond.code x code maxLocals ret :: tables_1) hat d (List.mem_cons_of_mem _ hd)
  have hfit : Fit s := fun {y c} hc i hi => by
    obtain ⟨ha, rfl⟩ := Array.getElem?_eq_some_iff.mp hc
    have q := List.all_eq_true.mp ((Array.all_eq_true_iff_forall_mem.mp hF) _ (Array.getElem_mem ha)) i (List.mem_range.mpr hi)
    simpa [Array.getElem?_eq_getElem hi] using q
  obtain ⟨i0, ei0⟩ := isL_v gb0
  obtain rfl : w0 = (.long i0) := Option.some.inj ei0
  obtain ⟨i1, ei1⟩ := isL_v gb1
  obtain rfl : w1 = (.long i1) := Option.some.inj ei1
  obtain ⟨i2, ei2⟩ := is_v gb2
  obtain rfl : w2 = (.int i2) := Option.some.inj ei2
  obtain ⟨i3, ei3⟩ := is_v ga3
  obtain rfl : w3 = (.int i3) := Option.some.inj ei3
  obtain ⟨n, o, h1, h2, h3, _, L, rfl, ⟨rfl, N⟩, hq⟩ := rm0 l s _ hw tables_1 i0 i1 i2 i3 s.heap s.heap.size (Nat.le_refl _) p e ha hc hk s m _ below hf ((Spec.applies_iff_loose hf).mp happ).1 ⟨rfl, State.Warmed39.refl s, rfl⟩ trivial
  refine ⟨n, _, h1, h2, h3, hpost _ _ _ _ _ _ ⟨Cond.after_iff.mpr rfl, Cond.after_iff.mpr (eq_i res_at (Term.int_eval (1)) rfl), trivial⟩ ⟨hq.1, hq.2.1, (hq.2.2.sift fun y hy => Or.inr (N y hy)).mono (by decide) (by decide)⟩⟩
theorem main_1_1 : Claimed_1_1 := comes_1 fun _ _ _ _ _ _ h hF => ⟨h.1, hF⟩
theorem main_1_2 : Claimed_1_2 := comes_1 fun _ _ _ _ _ _ h hF => ⟨h.2.1, hF⟩
end Jvm.Pilot.@@N@@
namespace Jvm.Pilot.@@N@@
open Jvm Jvm.ClassFile Sem Op Lib Jvm.Free Jvm.Stand Jvm.Pilot.@@N@@.Jvm.D
/-! MADE BY PROGRAM (witnessworld.py) out of the Statement's table words and the real class files: 15 classes; the members and pool entries that the words name. The judged class is class 1, her method 1. -/
namespace start1
open Jvm.ClassFile
def u (s : String) : CpInfo := .utf8 (stringToUtf16 s)
/-- a pool by its gaps: so many unusable entries, then the entry; so many at the end -/
def gap : Nat → List CpInfo → List CpInfo
  | 0, r => r
  | n + 1, r => .unusable :: gap n r
def poolList (es : List (Nat × CpInfo)) (last : Nat) : List CpInfo := es.foldr (fun e r => gap e.1 (e.2 :: r)) (gap last [])
def pool (es : List (Nat × CpInfo)) (last : Nat) : Array CpInfo := ⟨poolList es last⟩
def fileOf (pool : Array CpInfo) (this : Nat) (attrs : Array Attribute := #[]) (ms : Array MethodInfo := #[]) (fl : Nat := 33) (sup : Nat := 0) (ifs : Array Nat := #[]) (fds : Array FieldInfo := #[]) : ClassFile where
  minorVersion := 0
  majorVersion := 65
  constantPool := pool
  accessFlags := fl
  thisClass := this
  superClass := sup
  interfaces := ifs
  fields := fds
  methods := ms
  attributes := attrs
def plain (name : String) (sup : Option ClassId) : Class where
  name := name
  kind := .ordinary
  loader := none
  accessFlags := 33
  super := sup
  interfaces := #[]
  cf := none
  fields := #[]
  methods := #[]
  instanceTypes := #[]
  staticTypes := #[]
  resolved := #[]
  callSites := []
  init := .initialized
  statics := none
  mirror := none

def pool0 : Array CpInfo := pool [(5, u "<init>"), (0, u "()V"), (1, .class_ 10), (1, u "java/lang/Object")] 113

def k0c0 : Code := { maxStack := 0, maxLocals := 1, code := object_method_1_code, exceptionTable := #[], attributes := #[] }
def k0m0 : Method := { name := "<init>", desc := "()V", sig := { parameters := [], returnType := none }, accessFlags := 1, code := some k0c0 }
/-- java/lang/Object -/
def k0 : Class := { plain "java/lang/Object" none with
  accessFlags := 33
  interfaces := #[]
  cf := some (fileOf pool0 8 #[] #[{ accessFlags := 1, nameIndex := 5, descriptorIndex := 6, attributes := #[] }] 33 0 #[] #[])
  fields := #[]
  methods := #[k0m0]
  instanceTypes := #[]
  staticTypes := #[]
  resolved := Array.replicate 124 none
  statics := none }

def pool1 : Array CpInfo := pool [(2, .class_ 4), (1, u "java/lang/Object"), (0, u "<init>"), (0, u "()V"), (0, .long 4194303), (1, .long 9007199254740991), (1, .class_ 12), (0, u "com/example/idle_harbor/idleharbor/perf/TimedRun$Tally"), (0, .methodref 11 14), (0, .nameAndType 5 15), (0, u "(JJI)V"), (0, .long 1000000000), (1, .methodref 11 19), (0, .nameAndType 20 21), (0, u "perSecond"), (0, u "()J"), (0, .class_ 23), (0, u "com/example/idle_harbor/idleharbor/perf/TallyPerSecondPinLaw"), (2, u "law"), (0, u "(JJII)Z")] 7

def k1m0 : Method := { name := "<init>", desc := "()V", sig := { parameters := [], returnType := none }, accessFlags := 1, code := none }
def k1c1 : Code := { maxStack := 7, maxLocals := 19, code := code, exceptionTable := #[], attributes := #[] }
def k1m1 : Method := { name := "law", desc := "(JJII)Z", sig := { parameters := [.long, .long, .int, .int], returnType := some .boolean }, accessFlags := 9, code := some k1c1 }
/-- com/example/idle_harbor/idleharbor/perf/TallyPerSecondPinLaw -/
def k1 : Class := { plain "com/example/idle_harbor/idleharbor/perf/TallyPerSecondPinLaw" (some 0) with
  accessFlags := 49
  interfaces := #[]
  cf := some (fileOf pool1 22 #[] #[{ accessFlags := 1, nameIndex := 5, descriptorIndex := 6, attributes := #[] }, { accessFlags := 9, nameIndex := 26, descriptorIndex := 27, attributes := #[] }] 49 2 #[] #[])
  fields := #[]
  methods := #[k1m0, k1m1]
  instanceTypes := #[]
  staticTypes := #[]
  resolved := Array.replicate 35 none
  statics := none }

def pool2 : Array CpInfo := pool [(1, .methodref 2 3), (0, .class_ 4), (0, .nameAndType 5 6), (0, u "java/lang/Object"), (0, u "<init>"), (0, u "()V"), (0, .fieldref 8 9), (0, .class_ 10), (0, .nameAndType 11 12), (0, u "com/example/idle_harbor/idleharbor/perf/TimedRun$Tally"), (0, u "requests"), (0, u "J"), (0, .fieldref 8 14), (0, .nameAndType 15 12), (0, u "nanos"), (0, .fieldref 8 17), (0, .nameAndType 18 19), (0, u "backends"), (0, u "I"), (0, .double 4741671816366391296), (1, .methodref 23 24), (0, .class_ 25), (0, .nameAndType 26 27), (0, u "java/lang/Math"), (0, u "round"), (0, u "(D)J"), (2, u "(JJI)V"), (2, u "()J"), (1, u "perSecond"), (4, .class_ 41), (0, u "com/example/idle_harbor/idleharbor/perf/TimedRun")] 2

def k2c0 : Code := { maxStack := 3, maxLocals := 6, code := prog_82_method_1_code, exceptionTable := #[], attributes := #[] }
def k2m0 : Method := { name := "<init>", desc := "(JJI)V", sig := { parameters := [.long, .long, .int], returnType := none }, accessFlags := 0, code := some k2c0 }
def k2c1 : Code := { maxStack := 4, maxLocals := 1, code := prog_82_method_4_code, exceptionTable := #[], attributes := #[] }
def k2m1 : Method := { name := "perSecond", desc := "()J", sig := { parameters := [], returnType := some .long }, accessFlags := 0, code := some k2c1 }
/-- com/example/idle_harbor/idleharbor/perf/TimedRun$Tally -/
def k2 : Class := { plain "com/example/idle_harbor/idleharbor/perf/TimedRun$Tally" (some 0) with
  accessFlags := 32
  interfaces := #[]
  cf := some (fileOf pool2 8 #[.nestHost 40] #[{ accessFlags := 0, nameIndex := 5, descriptorIndex := 30, attributes := #[] }, { accessFlags := 0, nameIndex := 35, descriptorIndex := 33, attributes := #[] }] 32 2 #[] #[{ accessFlags := 18, nameIndex := 11, descriptorIndex := 12, attributes := #[] }, { accessFlags := 18, nameIndex := 15, descriptorIndex := 12, attributes := #[] }, { accessFlags := 18, nameIndex := 18, descriptorIndex := 19, attributes := #[] }])
  fields := #[{ name := "requests", type := .long, accessFlags := 18, slot := 0, constantValue := 0 }, { name := "nanos", type := .long, accessFlags := 18, slot := 1, constantValue := 0 }, { name := "backends", type := .int, accessFlags := 18, slot := 2, constantValue := 0 }]
  methods := #[k2m0, k2m1]
  instanceTypes := #[.long, .long, .int]
  staticTypes := #[]
  resolved := Array.replicate 44 none
  statics := none }

def pool3 : Array CpInfo := pool [(1, .class_ 2), (0, u "java/lang/Math"), (1, .class_ 6), (1, u "java/lang/Object"), (0, u "<init>"), (0, u "()V"), (70, .methodref 80 81), (0, .class_ 82), (0, .nameAndType 83 84), (0, u "java/lang/Double"), (0, u "doubleToRawLongBits"), (0, u "(D)J"), (2, .long 9218868437227405312), (1, .long 1074), (1, .long 18446744073709551552), (1, .long 4503599627370495), (1, .long 4503599627370496), (2, .class_ 100), (1, u "java/lang/Math$RandomNumberGeneratorHolder"), (71, u "negativeZeroFloatBits"), (0, u "J"), (2, u "negativeZeroDoubleBits"), (68, u "$assertionsDisabled"), (0, u "Z"), (91, u "twoToTheDoubleScaleDown"), (0, u "D"), (4, u "twoToTheDoubleScaleUp"), (9, u "E"), (3, u "PI"), (2, u "TAU"), (2, u "DEGREES_TO_RADIANS"), (0, u "RADIANS_TO_DEGREES"), (17, u "round")] 76

def k3m0 : Method := { name := "<init>", desc := "()V", sig := { parameters := [], returnType := none }, accessFlags := 2, code := none }
def k3c1 : Code := { maxStack := 4, maxLocals := 10, code := jdk_29_method_22_code, exceptionTable := #[], attributes := #[] }
def k3m1 : Method := { name := "round", desc := "(D)J", sig := { parameters := [.double], returnType := some .long }, accessFlags := 9, code := some k3c1 }
/-- java/lang/Math -/
def k3 : Class := { plain "java/lang/Math" (some 0) with
  accessFlags := 49
  interfaces := #[]
  cf := some (fileOf pool3 1 #[.nestMembers #[98]] #[{ accessFlags := 2, nameIndex := 7, descriptorIndex := 8, attributes := #[] }, { accessFlags := 9, nameIndex := 383, descriptorIndex := 84, attributes := #[] }] 49 4 #[] #[{ accessFlags := 25, nameIndex := 354, descriptorIndex := 339, attributes := #[] }, { accessFlags := 25, nameIndex := 358, descriptorIndex := 339, attributes := #[] }, { accessFlags := 25, nameIndex := 361, descriptorIndex := 339, attributes := #[] }, { accessFlags := 26, nameIndex := 364, descriptorIndex := 339, attributes := #[] }, { accessFlags := 26, nameIndex := 365, descriptorIndex := 339, attributes := #[] }, { accessFlags := 26, nameIndex := 172, descriptorIndex := 173, attributes := #[] }, { accessFlags := 26, nameIndex := 176, descriptorIndex := 173, attributes := #[] }, { accessFlags := 8, nameIndex := 344, descriptorIndex := 339, attributes := #[] }, { accessFlags := 8, nameIndex := 338, descriptorIndex := 339, attributes := #[] }, { accessFlags := 4120, nameIndex := 245, descriptorIndex := 246, attributes := #[] }])
  fields := #[{ name := "E", type := .double, accessFlags := 25, slot := 0, constantValue := 0 }, { name := "PI", type := .double, accessFlags := 25, slot := 1, constantValue := 0 }, { name := "TAU", type := .double, accessFlags := 25, slot := 2, constantValue := 0 }, { name := "DEGREES_TO_RADIANS", type := .double, accessFlags := 26, slot := 3, constantValue := 0 }, { name := "RADIANS_TO_DEGREES", type := .double, accessFlags := 26, slot := 4, constantValue := 0 }, { name := "negativeZeroFloatBits", type := .long, accessFlags := 26, slot := 5, constantValue := 0 }, { name := "negativeZeroDoubleBits", type := .long, accessFlags := 26, slot := 6, constantValue := 0 }, { name := "twoToTheDoubleScaleUp", type := .double, accessFlags := 8, slot := 7, constantValue := 0 }, { name := "twoToTheDoubleScaleDown", type := .double, accessFlags := 8, slot := 8, constantValue := 0 }, { name := "$assertionsDisabled", type := .boolean, accessFlags := 4120, slot := 9, constantValue := 0 }]
  methods := #[k3m0, k3m1]
  instanceTypes := #[]
  staticTypes := #[.double, .double, .double, .double, .double, .long, .long, .double, .double, .boolean]
  resolved := Array.replicate 460 none
  statics := none }

def pool4 : Array CpInfo := pool [(1, .class_ 2), (0, u "java/io/Serializable"), (0, .class_ 4), (0, u "java/lang/Object")] 2

/-- java/io/Serializable -/
def k4 : Class := { plain "java/io/Serializable" (some 0) with
  accessFlags := 1537
  interfaces := #[]
  cf := some (fileOf pool4 1 #[] #[] 1537 3 #[] #[])
  fields := #[]
  methods := #[]
  instanceTypes := #[]
  staticTypes := #[]
  resolved := Array.replicate 7 none
  statics := none }

def pool5 : Array CpInfo := pool [(2, .class_ 4), (1, u "java/lang/Object"), (0, u "<init>"), (0, u "()V"), (1, .class_ 10), (1, u "java/lang/Number"), (2, .class_ 14), (0, u "java/io/Serializable"), (0, u "serialVersionUID"), (0, u "J")] 20

def k5m0 : Method := { name := "<init>", desc := "()V", sig := { parameters := [], returnType := none }, accessFlags := 1, code := none }
/-- java/lang/Number -/
def k5 : Class := { plain "java/lang/Number" (some 0) with
  accessFlags := 1057
  interfaces := #[4]
  cf := some (fileOf pool5 8 #[] #[{ accessFlags := 1, nameIndex := 5, descriptorIndex := 6, attributes := #[] }] 1057 2 #[13] #[{ accessFlags := 26, nameIndex := 15, descriptorIndex := 16, attributes := #[] }])
  fields := #[{ name := "serialVersionUID", type := .long, accessFlags := 26, slot := 0, constantValue := 0 }]
  methods := #[k5m0]
  instanceTypes := #[]
  staticTypes := #[.long]
  resolved := Array.replicate 37 none
  statics := none }

def pool6 : Array CpInfo := pool [(1, .class_ 2), (0, u "java/lang/Comparable"), (0, .class_ 4), (0, u "java/lang/Object")] 7

/-- java/lang/Comparable -/
def k6 : Class := { plain "java/lang/Comparable" (some 0) with
  accessFlags := 1537
  interfaces := #[]
  cf := some (fileOf pool6 1 #[] #[] 1537 3 #[] #[])
  fields := #[]
  methods := #[]
  instanceTypes := #[]
  staticTypes := #[]
  resolved := Array.replicate 12 none
  statics := none }

def pool7 : Array CpInfo := pool [(1, .class_ 2), (0, u "java/lang/constant/Constable"), (0, .class_ 4), (0, u "java/lang/Object")] 6

/-- java/lang/constant/Constable -/
def k7 : Class := { plain "java/lang/constant/Constable" (some 0) with
  accessFlags := 1537
  interfaces := #[]
  cf := some (fileOf pool7 1 #[] #[] 1537 3 #[] #[])
  fields := #[]
  methods := #[]
  instanceTypes := #[]
  staticTypes := #[]
  resolved := Array.replicate 11 none
  statics := none }

def pool8 : Array CpInfo := pool [(1, .class_ 2), (0, u "java/lang/constant/ConstantDesc"), (0, .class_ 4), (0, u "java/lang/Object")] 32

/-- java/lang/constant/ConstantDesc -/
def k8 : Class := { plain "java/lang/constant/ConstantDesc" (some 0) with
  accessFlags := 1537
  interfaces := #[]
  cf := some (fileOf pool8 1 #[] #[] 1537 3 #[] #[])
  fields := #[]
  methods := #[]
  instanceTypes := #[]
  staticTypes := #[]
  resolved := Array.replicate 37 none
  statics := none }

def pool9 : Array CpInfo := pool [(1, .class_ 2), (0, u "java/lang/Double"), (46, u "(D)J"), (64, .class_ 116), (1, u "java/lang/Number"), (3, u "value"), (0, u "D"), (14, u "doubleToRawLongBits"), (36, u "TYPE"), (0, u "Ljava/lang/Class;"), (0, .class_ 176), (0, u "java/lang/Comparable"), (0, .class_ 178), (0, u "java/lang/constant/Constable"), (0, .class_ 180), (0, u "java/lang/constant/ConstantDesc"), (0, u "POSITIVE_INFINITY"), (3, u "NEGATIVE_INFINITY"), (2, u "NaN"), (2, u "MAX_VALUE"), (0, u "MIN_NORMAL"), (0, u "MIN_VALUE"), (2, u "SIZE"), (0, u "I"), (1, u "PRECISION"), (1, u "MAX_EXPONENT"), (1, u "MIN_EXPONENT"), (1, u "BYTES"), (3, u "serialVersionUID"), (0, u "J")] 79

def k9m0 : Method := { name := "doubleToRawLongBits", desc := "(D)J", sig := { parameters := [.double], returnType := some .long }, accessFlags := 265, code := none }
/-- java/lang/Double -/
def k9 : Class := { plain "java/lang/Double" (some 5) with
  accessFlags := 49
  interfaces := #[6, 7, 8]
  cf := some (fileOf pool9 1 #[] #[{ accessFlags := 265, nameIndex := 136, descriptorIndex := 49, attributes := #[] }] 49 114 #[175, 177, 179] #[{ accessFlags := 25, nameIndex := 181, descriptorIndex := 121, attributes := #[] }, { accessFlags := 25, nameIndex := 185, descriptorIndex := 121, attributes := #[] }, { accessFlags := 25, nameIndex := 188, descriptorIndex := 121, attributes := #[] }, { accessFlags := 25, nameIndex := 191, descriptorIndex := 121, attributes := #[] }, { accessFlags := 25, nameIndex := 192, descriptorIndex := 121, attributes := #[] }, { accessFlags := 25, nameIndex := 193, descriptorIndex := 121, attributes := #[] }, { accessFlags := 25, nameIndex := 196, descriptorIndex := 197, attributes := #[] }, { accessFlags := 25, nameIndex := 199, descriptorIndex := 197, attributes := #[] }, { accessFlags := 25, nameIndex := 201, descriptorIndex := 197, attributes := #[] }, { accessFlags := 25, nameIndex := 203, descriptorIndex := 197, attributes := #[] }, { accessFlags := 25, nameIndex := 205, descriptorIndex := 197, attributes := #[] }, { accessFlags := 25, nameIndex := 173, descriptorIndex := 174, attributes := #[] }, { accessFlags := 18, nameIndex := 120, descriptorIndex := 121, attributes := #[] }, { accessFlags := 26, nameIndex := 209, descriptorIndex := 210, attributes := #[] }])
  fields := #[{ name := "POSITIVE_INFINITY", type := .double, accessFlags := 25, slot := 0, constantValue := 0 }, { name := "NEGATIVE_INFINITY", type := .double, accessFlags := 25, slot := 1, constantValue := 0 }, { name := "NaN", type := .double, accessFlags := 25, slot := 2, constantValue := 0 }, { name := "MAX_VALUE", type := .double, accessFlags := 25, slot := 3, constantValue := 0 }, { name := "MIN_NORMAL", type := .double, accessFlags := 25, slot := 4, constantValue := 0 }, { name := "MIN_VALUE", type := .double, accessFlags := 25, slot := 5, constantValue := 0 }, { name := "SIZE", type := .int, accessFlags := 25, slot := 6, constantValue := 0 }, { name := "PRECISION", type := .int, accessFlags := 25, slot := 7, constantValue := 0 }, { name := "MAX_EXPONENT", type := .int, accessFlags := 25, slot := 8, constantValue := 0 }, { name := "MIN_EXPONENT", type := .int, accessFlags := 25, slot := 9, constantValue := 0 }, { name := "BYTES", type := .int, accessFlags := 25, slot := 10, constantValue := 0 }, { name := "TYPE", type := (.object "java/lang/Class"), accessFlags := 25, slot := 11, constantValue := 0 }, { name := "value", type := .double, accessFlags := 18, slot := 0, constantValue := 0 }, { name := "serialVersionUID", type := .long, accessFlags := 26, slot := 12, constantValue := 0 }]
  methods := #[k9m0]
  instanceTypes := #[.double]
  staticTypes := #[.double, .double, .double, .double, .double, .double, .int, .int, .int, .int, .int, (.object "java/lang/Class"), .long]
  resolved := Array.replicate 290 none
  statics := none }

def pool10 : Array CpInfo := pool [(1, u "java/lang/Cloneable"), (0, .class_ 1), (0, u "java/lang/Object"), (0, .class_ 3)] 3

/-- java/lang/Cloneable -/
def k10 : Class := { plain "java/lang/Cloneable" (some 0) with
  accessFlags := 1537
  interfaces := #[]
  cf := some (fileOf pool10 2 #[] #[] 1537 4 #[] #[])
  fields := #[]
  methods := #[]
  instanceTypes := #[]
  staticTypes := #[]
  resolved := Array.replicate 8 none
  statics := none }

/-- the primitive byte -/
def k11 : Class := { plain "byte" none with kind := .primitive 'B', accessFlags := 0x411 }
/-- [B -/
def k12 : Class := { plain "[B" (some 0) with kind := .array 11 .byte, interfaces := #[10, 4], accessFlags := 1041 }

/-- the primitive int -/
def k13 : Class := { plain "int" none with kind := .primitive 'I', accessFlags := 0x411 }
/-- [I -/
def k14 : Class := { plain "[I" (some 0) with kind := .array 13 .int, interfaces := #[10, 4], accessFlags := 1041 }

def heap : Heap := #[]
def classes : Array Class := #[k0, k1, k2, k3, k4, k5, k6, k7, k8, k9, k10, k11, k12, k13, k14]
def interned : List (Array UInt16 × Addr) := []
def slotsUsed : Nat := 0
def theMethod : MethodId := ⟨1, 1⟩
def args0 : Array Value := #[.long 5, .long 7, .int 3, .int 1]
def aboutOver (below : List Frame) : State where
  vm := { classes := classes, interned := interned.toArray }
  heap := heap
  slotsUsed := slotsUsed
  threads := #[{ frames := .invoking theMethod args0 :: below }]
def below0 : List Frame := [.native { method := ⟨0, 0⟩, args := #[] }]
def about1 : State := aboutOver below0
def p0 : Program := .bare "" "" ""
def e0 : Env := launch0.env 0 0 0
theorem w_frames : about1.frames = Frame.invoking theMethod args0 :: below0 := rfl
set_option maxRecDepth 65536 in
theorem w_args : argsFit about1.vm theMethod args0 = true := by decide +kernel
set_option maxRecDepth 65536 in
theorem w_heap : heapFits about1 = true := by decide +kernel
set_option maxRecDepth 65536 in
theorem w_runnable : about1.curStatus? = some .runnable := by decide +kernel
set_option maxRecDepth 65536 in
theorem w_alone : about1.alone = true := by decide +kernel
set_option maxRecDepth 65536 in
theorem w_named : about1.methodNamed? x = some theMethod := by decide +kernel
set_option maxRecDepth 65536 in
theorem w_hears : about1.hears theMethod below0 = true := by decide +kernel
set_option maxRecDepth 65536 in
theorem w_ripe : about1.ripe theMethod args0 below0 = true := by decide +kernel
theorem w_running : about1.status = .running := rfl
set_option maxRecDepth 65536 in
theorem w_room : about1.hasRoom e0.platform room_1 = true :=
  launch0.hasRoom_least _ room_1 (by decide +kernel) (by decide +kernel) (by decide +kernel) (by decide +kernel) (by decide +kernel) (by decide +kernel)
theorem allAtoms_all (ts : List Jvm.Cond) (a : Array Jvm.Value) (st : Jvm.State) : (allAtoms ts).before a st = ts.all (fun c => c.before a st) := by
  induction ts with
  | nil => rfl
  | cons c t ih =>
    show (Jvm.Cond.and c (allAtoms t)).before a st = _
    rw [Jvm.Cond.before_and, ih, List.all_cons]
def words1 : List Jvm.Cond := Jvm.Cond.code x code maxLocals ret :: tables_1
/-- a 'code' word, met by the world's own term for the bytes: nothing is compared byte by byte -/
theorem code_word {y : MethodName} {bytes : ByteArray} {mx : Nat} {rt : Option FieldType} {a : Array Value} {s : State} {m : MethodId} {meth : Method} {c : Code} (h1 : s.methodNamed? y = some m) (h2 : s.vm.method? m = some meth) (h3 : meth.code = some c) (h4 : c.code = bytes)
    (h5 : (c.maxLocals == mx && c.exceptionTable.isEmpty && decide (c.maxStack ≤ mostOperands) && decide (meth.sig.returnType = rt) && !meth.locks && decide (parseMethodDescriptor y.desc = some meth.sig)) = true) : (Jvm.Cond.code y bytes mx rt).before a s = true := by
  simp only [Bool.and_eq_true, beq_iff_eq, Bool.not_eq_true', decide_eq_true_eq] at h5
  obtain ⟨⟨⟨⟨⟨g1, g2⟩, g3⟩, g4⟩, g5⟩, g6⟩ := h5
  simp [Cond.before, Cond.holds, Cond.value, h1, h2, h3, h4, g1, g2, g3, g4, g5, g6]
def isCode : Jvm.Cond → Bool
  | .code _ _ _ _ => true
  | _ => false
theorem all_split {L : List Jvm.Cond} {P : Jvm.Cond → Bool} (h1 : L.all (fun c => isCode c || P c) = true) (h2 : ∀ c ∈ L.filter isCode, P c = true) : L.all P = true := by
  refine List.all_eq_true.mpr fun c hc => ?_
  have h := List.all_eq_true.mp h1 c hc
  rcases Bool.eq_false_or_eq_true (isCode c) with hi | hi
  · exact h2 c (List.mem_filter.mpr ⟨hc, hi⟩)
  · simpa [hi] using h
set_option maxRecDepth 65536 in
theorem w_c0 : (Jvm.Cond.code x code maxLocals ret).before args0 about1 = true := code_word (m := ⟨1, 1⟩) (meth := k1m1) (c := k1c1) (by decide +kernel) rfl rfl rfl (by decide +kernel)
set_option maxRecDepth 65536 in
theorem w_c1 : (Jvm.Cond.code ({ cls := "com/example/idle_harbor/idleharbor/perf/TimedRun$Tally", name := "<init>", desc := "(JJI)V" } : Jvm.MethodName) prog_82_method_1_code (6 : Nat) (Option.none : Option Jvm.ClassFile.FieldType)).before args0 about1 = true := code_word (m := ⟨2, 0⟩) (meth := k2m0) (c := k2c0) (by decide +kernel) rfl rfl rfl (by decide +kernel)
set_option maxRecDepth 65536 in
theorem w_c2 : (Jvm.Cond.code ({ cls := "java/lang/Object", name := "<init>", desc := "()V" } : Jvm.MethodName) object_method_1_code (1 : Nat) (Option.none : Option Jvm.ClassFile.FieldType)).before args0 about1 = true := code_word (m := ⟨0, 0⟩) (meth := k0m0) (c := k0c0) (by decide +kernel) rfl rfl rfl (by decide +kernel)
set_option maxRecDepth 65536 in
theorem w_c3 : (Jvm.Cond.code ({ cls := "com/example/idle_harbor/idleharbor/perf/TimedRun$Tally", name := "perSecond", desc := "()J" } : Jvm.MethodName) prog_82_method_4_code (1 : Nat) (Option.some Jvm.ClassFile.FieldType.long)).before args0 about1 = true := code_word (m := ⟨2, 1⟩) (meth := k2m1) (c := k2c1) (by decide +kernel) rfl rfl rfl (by decide +kernel)
set_option maxRecDepth 65536 in
theorem w_c4 : (Jvm.Cond.code ({ cls := "java/lang/Math", name := "round", desc := "(D)J" } : Jvm.MethodName) jdk_29_method_22_code (10 : Nat) (Option.some Jvm.ClassFile.FieldType.long)).before args0 about1 = true := code_word (m := ⟨3, 1⟩) (meth := k3m1) (c := k3c1) (by decide +kernel) rfl rfl rfl (by decide +kernel)
def codes1 : List Jvm.Cond := [Jvm.Cond.code x code maxLocals ret, Jvm.Cond.code ({ cls := "com/example/idle_harbor/idleharbor/perf/TimedRun$Tally", name := "<init>", desc := "(JJI)V" } : Jvm.MethodName) prog_82_method_1_code (6 : Nat) (Option.none : Option Jvm.ClassFile.FieldType), Jvm.Cond.code ({ cls := "java/lang/Object", name := "<init>", desc := "()V" } : Jvm.MethodName) object_method_1_code (1 : Nat) (Option.none : Option Jvm.ClassFile.FieldType), Jvm.Cond.code ({ cls := "com/example/idle_harbor/idleharbor/perf/TimedRun$Tally", name := "perSecond", desc := "()J" } : Jvm.MethodName) prog_82_method_4_code (1 : Nat) (Option.some Jvm.ClassFile.FieldType.long), Jvm.Cond.code ({ cls := "java/lang/Math", name := "round", desc := "(D)J" } : Jvm.MethodName) jdk_29_method_22_code (10 : Nat) (Option.some Jvm.ClassFile.FieldType.long)]
set_option maxRecDepth 65536 in
theorem codes_eq : words1.filter isCode = codes1 := rfl
theorem w_codes : ∀ c ∈ words1.filter isCode, c.before args0 about1 = true := by
  rw [codes_eq]
  intro c hc
  simp only [codes1, List.mem_cons, List.not_mem_nil, or_false] at hc
  rcases hc with rfl | rfl | rfl | rfl | rfl
  · exact w_c0
  · exact w_c1
  · exact w_c2
  · exact w_c3
  · exact w_c4
set_option maxRecDepth 65536 in
theorem w_t1 : (words1.take 24).all (fun c => isCode c || c.before args0 about1) = true := by decide +kernel
set_option maxRecDepth 65536 in
theorem w_t2 : (words1.drop 24).all (fun c => isCode c || c.before args0 about1) = true := by decide +kernel
theorem w_tables : (allAtoms (Jvm.Cond.code x code maxLocals ret :: tables_1)).before args0 about1 = true := by
  rw [allAtoms_all]
  show words1.all (fun c => c.before args0 about1) = true
  refine all_split ?_ w_codes
  rw [← List.take_append_drop 24 words1, List.all_append, w_t1, w_t2]
  rfl
set_option maxRecDepth 65536 in
theorem w_case : (Jvm.Cond.and given_1 narrow_1).before args0 about1 = true := by decide +kernel
theorem w_applies : (headSpec (Jvm.Cond.code x code maxLocals ret :: tables_1) room_1).applies x e0.platform about1 = true :=
  (Spec.applies_iff w_frames).mpr ⟨w_running, w_runnable, w_alone, w_named, w_hears, w_ripe, w_room, w_tables⟩
theorem atStart : AtStart classFile x code maxLocals ret World_1 tables_1 room_1 Calls_1 rest_1 Pre_1 launch0 p0 e0 about1 theMethod args0 below0 :=
  ⟨lists_1, trivial, launch0.admits_env _ _ _, launch0.least_env, fairChoices_fair.cas, fairChoices_fair.clock, w_frames, w_args, w_heap, w_applies, trivial, trivial, w_case⟩
end start1
theorem witness_1 : WitnessClaimed_1 := ⟨start1.p0, start1.e0, start1.about1, start1.theMethod, start1.args0, start1.below0, start1.atStart⟩
end Jvm.Pilot.@@N@@
