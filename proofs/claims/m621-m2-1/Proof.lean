import JvmDerived
import JvmDerived.Pilot.@@N@@Statement
import JvmDerived.Pilot.@@N@@Code
set_option linter.unusedVariables false
set_option linter.unusedSimpArgs false
namespace Jvm.RoadKit
open Sem ClassFile Op Lib Jvm.Stand Jvm.Free Jvm.LawKit
section OwnNew
variable {p : Program} {l : Launch} {e : Env} {R : Room} {s : State} {m : MethodId} {args : Array Value} {below : List Frame} {meth : Method} {c : Code} {T : State} {locs : List Loc} {cells slots : Nat}
/-- from S0 the run comes to the method's return, with what Q says there -/
def OwnEnds (p : Program) (e : Env) (below : List Frame) (s : State) (Q : Option Value → Heap → List Loc → Prop) (ck sk : Nat) (S0 : State) : Prop :=
  ∃ s₂ o, Steps p.tables e below S0 s₂ ∧ s₂.status = .running ∧ Ended s₂ below o ∧ ∃ v L, o = .returned v ∧ Q v s₂.heap L ∧ FrameEnd s o s₂ L ck sk
theorem OwnEnds.st {Q : Option Value → Heap → List Loc → Prop} {ck sk : Nat} {S0 S1 : State} (h : ∀ t, Steps p.tables e below S1 t → Steps p.tables e below S0 t) (k : OwnEnds p e below s Q ck sk S1) : OwnEnds p e below s Q ck sk S0 := by
  obtain ⟨s₂, o, h1, h2⟩ := k
  exact ⟨s₂, o, h _ h1, h2⟩
theorem OwnEnds.go {Q : Option Value → Heap → List Loc → Prop} {ck sk : Nat} {S0 S1 : State} (h : Steps p.tables e below S0 S1) (k : OwnEnds p e below s Q ck sk S1) : OwnEnds p e below s Q ck sk S0 := by
  obtain ⟨s₂, o, h1, h2⟩ := k
  exact ⟨s₂, o, h.trans h1, h2⟩
theorem own_out (X : Stand p l e R s m args below meth c T locs cells slots) (hx : p.tables.exec = Jvm.exec) {pc : Nat} {Ls : Array Slot} {w : Value} {t : FieldType} {i : Instr} {rest : List Value} (hret : meth.sig.returnType = some t) (hlocks : meth.locks = false) (hn : narrow t w = w)
    (hi : (i = .ireturn ∧ (t = .int ∨ t = .boolean ∨ t = .byte ∨ t = .char ∨ t = .short) ∧ ∃ z, w = .int z) ∨ (i = .lreturn ∧ t = .long ∧ ∃ z, w = .long z) ∨ (i = .dreturn ∧ t = .double ∧ ∃ z, w = .double z) ∨ (i = .freturn ∧ t = .float ∧ ∃ z, w = .float z) ∨ (i = .areturn ∧ t.isReference = true ∧ w.isRef = true))
    (hd : decode c.code pc = .ok (i, 1)) {Q : Option Value → Heap → List Loc → Prop} {ck sk : Nat} (hQ : Q (some w) T.heap locs) (hc : cells ≤ ck) (hs : slots ≤ sk) : OwnEnds p e below s Q ck sk (T.setTop (mkF m pc Ls (w :: rest))) := by
  obtain ⟨fs, hr, hrun, hended, hW, hsame⟩ := X.leave (v := some w) (fun h => by rw [hret] at h; cases h) hlocks
  exact ⟨_, _, retOut X hx hret hn hi hd hr, hrun, hended, _, _, rfl, hQ, ⟨_, rfl⟩, hW, hsame.mono hc hs⟩
theorem own_retI (X : Stand p l e R s m args below meth c T locs cells slots) (hx : p.tables.exec = Jvm.exec) {pc : Nat} {Ls : Array Slot} {z : Int32} {rest : List Value} (hret : meth.sig.returnType = some .int) (hlocks : meth.locks = false) (hd : decode c.code pc = .ok (.ireturn, 1))
    {Q : Option Value → Heap → List Loc → Prop} {ck sk : Nat} (hQ : Q (some (.int z)) T.heap locs) (hc : cells ≤ ck) (hs : slots ≤ sk) : OwnEnds p e below s Q ck sk (T.setTop (mkF m pc Ls (.int z :: rest))) :=
  own_out X hx hret hlocks rfl (Or.inl ⟨rfl, Or.inl rfl, _, rfl⟩) hd hQ hc hs
theorem own_retJ (X : Stand p l e R s m args below meth c T locs cells slots) (hx : p.tables.exec = Jvm.exec) {pc : Nat} {Ls : Array Slot} {z : Int64} {rest : List Value} (hret : meth.sig.returnType = some .long) (hlocks : meth.locks = false) (hd : decode c.code pc = .ok (.lreturn, 1))
    {Q : Option Value → Heap → List Loc → Prop} {ck sk : Nat} (hQ : Q (some (.long z)) T.heap locs) (hc : cells ≤ ck) (hs : slots ≤ sk) : OwnEnds p e below s Q ck sk (T.setTop (mkF m pc Ls (.long z :: rest))) :=
  own_out X hx hret hlocks rfl (Or.inr (Or.inl ⟨rfl, rfl, _, rfl⟩)) hd hQ hc hs
theorem own_retD (X : Stand p l e R s m args below meth c T locs cells slots) (hx : p.tables.exec = Jvm.exec) {pc : Nat} {Ls : Array Slot} {z : UInt64} {rest : List Value} (hret : meth.sig.returnType = some .double) (hlocks : meth.locks = false) (hd : decode c.code pc = .ok (.dreturn, 1))
    {Q : Option Value → Heap → List Loc → Prop} {ck sk : Nat} (hQ : Q (some (.double z)) T.heap locs) (hc : cells ≤ ck) (hs : slots ≤ sk) : OwnEnds p e below s Q ck sk (T.setTop (mkF m pc Ls (.double z :: rest))) :=
  own_out X hx hret hlocks rfl (Or.inr (Or.inr (Or.inl ⟨rfl, rfl, _, rfl⟩))) hd hQ hc hs
theorem own_retA (X : Stand p l e R s m args below meth c T locs cells slots) (hx : p.tables.exec = Jvm.exec) {pc : Nat} {Ls : Array Slot} {w : Value} {t : FieldType} {rest : List Value} (hret : meth.sig.returnType = some t) (hlocks : meth.locks = false) (ht : t.isReference = true) (hw : w.isRef = true) (hd : decode c.code pc = .ok (.areturn, 1))
    {Q : Option Value → Heap → List Loc → Prop} {ck sk : Nat} (hQ : Q (some w) T.heap locs) (hc : cells ≤ ck) (hs : slots ≤ sk) : OwnEnds p e below s Q ck sk (T.setTop (mkF m pc Ls (w :: rest))) :=
  own_out X hx hret hlocks (by cases t <;> first | rfl | cases ht) (Or.inr (Or.inr (Or.inr (Or.inr ⟨rfl, ht, hw⟩)))) hd hQ hc hs
theorem own_retN (X : Stand p l e R s m args below meth c T locs cells slots) (hx : p.tables.exec = Jvm.exec) {pc : Nat} {Ls : Array Slot} {z : Int32} {t : FieldType} {rest : List Value} (hret : meth.sig.returnType = some t) (hlocks : meth.locks = false) (ht : t = .boolean ∨ t = .byte ∨ t = .char ∨ t = .short) (hd : decode c.code pc = .ok (.ireturn, 1))
    {Q : Option Value → Heap → List Loc → Prop} {ck sk : Nat} (hQ : Q (some (.int (nar t z))) T.heap locs) (hc : cells ≤ ck) (hs : slots ≤ sk) : OwnEnds p e below s Q ck sk (T.setTop (mkF m pc Ls (.int z :: rest))) := by
  obtain ⟨fs, hr, hrun, hended, hW, hsame⟩ := X.leave (v := some (.int (nar t z))) (fun h => by rw [hret] at h; cases h) hlocks
  exact ⟨_, _, retN X hx hret ht hd hr, hrun, hended, _, _, rfl, hQ, ⟨_, rfl⟩, hW, hsame.mono hc hs⟩
theorem own_retV (X : Stand p l e R s m args below meth c T locs cells slots) (hx : p.tables.exec = Jvm.exec) {pc : Nat} {Ls : Array Slot} (hret : meth.sig.returnType = none) (hlocks : meth.locks = false) (hd : decode c.code pc = .ok (.return_, 1))
    {Q : Option Value → Heap → List Loc → Prop} {ck sk : Nat} (hQ : Q none T.heap locs) (hc : cells ≤ ck) (hs : slots ≤ sk) : OwnEnds p e below s Q ck sk (T.setTop (mkF m pc Ls [])) := by
  obtain ⟨fs, hr, hrun, hended, hW, hsame⟩ := X.leave (v := none) (fun _ => rfl) hlocks
  exact ⟨_, _, X.returnOut hx hret hd hr, hrun, hended, _, _, rfl, hQ, ⟨_, rfl⟩, hW, hsame.mono hc hs⟩
end OwnNew
end Jvm.RoadKit
namespace Jvm.FP.Core.OwnFl
open Jvm.FP.Core
/-- the value in units of 2^-1074 -/
def zv (x : UInt64) : Int := zval b64 (val64 x)
theorem nn {x : UInt64} (h : DFin x) : Jvm.Free.Fl.NoNaN64 x := Jvm.Free.Fl.noNaN64_no.mpr h.notNaN
theorem one_pos : (0 : Int) < (one64 : Int) := by have := one64_pos; omega
theorem zmag_nat (d : Datum) : zmag b64 d = (zval b64 d).natAbs := (natAbs_signed _ _).symm
theorem fin_of {r : UInt64} (hn : val64 r ≠ .nan) (hz : zmag b64 (val64 r) < b64.tails * 2 ^ (b64.exps - 2)) : DFin r := by
  cases h : val64 r with
  | nan => exact absurd h hn
  | inf s => rw [h] at hz; exact absurd hz (Nat.lt_irrefl _)
  | fin s c q => exact ⟨s, c, q, h⟩
theorem rep_q {k : Nat} (hk : k ≤ 2045) : b64.qmin + (k : Int) ≤ b64.qmax := by
  have h3 := qmax_qmin b64
  have h4 : b64.emax = 1023 := by decide
  omega
/-- n * 2^k units is a double, for n of at most 53 digits -/
theorem rep (n : Int) (k : Nat) (hn : n.natAbs < 2 ^ 53) (hk : k ≤ 2045) : ∃ V, fits b64 V ∧ (∃ s c q, V = .fin s c q) ∧ zval b64 V = n * ((2 ^ k : Nat) : Int) := by
  obtain ⟨c', q', h1, h2⟩ := round_exact good_b64 (decide (n < 0)) (c := n.natAbs) (q := b64.qmin + k) hn (by omega) (rep_q hk)
  refine ⟨.fin (decide (n < 0)) c' q', ?_, ⟨_, _, _, rfl⟩, ?_⟩
  · rw [← h1]; exact round_fits good_b64 _
  · show signed (decide (n < 0)) (inUnits c' q' b64.qmin) = _
    rw [h2]
    unfold inUnits
    rw [signed_mul, show (b64.qmin + (k : Int) - b64.qmin).toNat = k by omega]
    congr 1
    unfold signed
    by_cases h5 : n < 0
    · rw [if_pos (decide_eq_true h5)]; omega
    · rw [if_neg (by simp [h5])]; omega
theorem fin_ne {V : Datum} (h : ∃ s c q, V = .fin s c q) : V ≠ .nan := by obtain ⟨s, c, q, rfl⟩ := h; exact Datum.noConfusion
theorem fin_to {r : UInt64} {V : Datum} (hn : dIsNaN r = false) (fV : fits b64 V) (hV : ∃ s c q, V = .fin s c q) (h : zv r = zval b64 V) : DFin r := by
  refine fin_of ((notNaN_iff r).mp hn) ?_
  rw [zmag_nat, show zval b64 (val64 r) = zval b64 V from h, ← zmag_nat]
  obtain ⟨s, c, q, rfl⟩ := hV
  exact zmag_lt_top good_b64 fV
theorem dadd_z {a b : UInt64} (ha : DFin a) (hb : DFin b) {V : Datum} (fV : fits b64 V) (hV : ∃ s c q, V = .fin s c q) (h : zv a + zv b = zval b64 V) : DFin (dadd a b) ∧ zv (dadd a b) = zv a + zv b := by
  have h1 := sum_le good_b64 ha hb (val64_fits a) (val64_fits b) fV (fin_ne hV) (Int.le_of_eq h)
  have h2 := sum_ge good_b64 ha hb (val64_fits a) (val64_fits b) fV (fin_ne hV) (Int.le_of_eq h.symm)
  rw [← val64_dadd] at h1 h2
  have h3 : zv (dadd a b) = zval b64 V := Int.le_antisymm h1 h2
  exact ⟨fin_to (dadd_out' ha hb.notNaN) fV hV h3, h3.trans h.symm⟩
theorem signed_prod (s t : Bool) (x y : Nat) : signed (s != t) (x * y) = signed s x * signed t y := by
  cases s <;> cases t <;> simp [signed, Int.natCast_mul, Int.neg_mul, Int.mul_neg]
theorem prod_z {a b : UInt64} (ha : DFin a) (hb : DFin b) : ∃ s n e, exactProduct (val64 a) (val64 b) = .fin s n e ∧ 2 * b64.qmin ≤ e ∧ signed s (inUnits n e (2 * b64.qmin)) = zv a * zv b := by
  obtain ⟨s, c, q, h1⟩ := ha
  obtain ⟨t, d, r, h2⟩ := hb
  have f1 := val64_fits a
  have f2 := val64_fits b
  rw [h1] at f1
  rw [h2] at f2
  obtain ⟨p1, p2, p3⟩ := product_units f1 f2
  refine ⟨_, _, _, by rw [h1, h2]; exact p1, p2, ?_⟩
  rw [p3]
  unfold zv zval
  rw [h1, h2]
  exact signed_prod s t _ _
theorem two_q : ((2 ^ (b64.qmin - 2 * b64.qmin).toNat : Nat) : Int) = (one64 : Int) := by
  rw [show b64.qmin - 2 * b64.qmin = -b64.qmin by omega, pow_qmin64]
theorem dmul_le {a b : UInt64} (ha : DFin a) (hb : DFin b) {V : Datum} (fV : fits b64 V) (hV : V ≠ .nan) (h : zv a * zv b ≤ zval b64 V * (one64 : Int)) : zv (dmul a b) ≤ zval b64 V := by
  obtain ⟨s, n, e, h1, h2, h3⟩ := prod_z ha hb
  unfold zv
  rw [val64_dmul, h1]
  refine zval_round_le good_b64 fV hV (e0 := 2 * b64.qmin) (by rw [qmin_b64]; decide) h2 ?_
  rw [h3, two_q]; exact h
theorem dmul_ge {a b : UInt64} (ha : DFin a) (hb : DFin b) {V : Datum} (fV : fits b64 V) (hV : V ≠ .nan) (h : zval b64 V * (one64 : Int) ≤ zv a * zv b) : zval b64 V ≤ zv (dmul a b) := by
  obtain ⟨s, n, e, h1, h2, h3⟩ := prod_z ha hb
  unfold zv
  rw [val64_dmul, h1]
  refine zval_round_ge good_b64 fV hV (e0 := 2 * b64.qmin) (by rw [qmin_b64]; decide) h2 ?_
  rw [h3, two_q]; exact h
theorem dmul_z {a b : UInt64} (ha : DFin a) (hb : DFin b) {V : Datum} (fV : fits b64 V) (hV : ∃ s c q, V = .fin s c q) (h : zv a * zv b = zval b64 V * (one64 : Int)) : DFin (dmul a b) ∧ zv (dmul a b) = zval b64 V := by
  have h3 : zv (dmul a b) = zval b64 V := Int.le_antisymm (dmul_le ha hb fV (fin_ne hV) (Int.le_of_eq h)) (dmul_ge ha hb fV (fin_ne hV) (Int.le_of_eq h.symm))
  exact ⟨fin_to (dmul_out ha hb) fV hV h3, h3⟩
theorem scale {x y α β γ δ : Nat} (h : α + δ = β + γ) : x * 2 ^ α ≤ y * 2 ^ β ↔ x * 2 ^ γ ≤ y * 2 ^ δ := by
  have p1 := Nat.two_pow_pos δ
  have p2 := Nat.two_pow_pos β
  have e1 : x * 2 ^ α * 2 ^ δ = x * 2 ^ γ * 2 ^ β := by rw [Nat.mul_assoc, Nat.mul_assoc, ← Nat.pow_add, ← Nat.pow_add, h, Nat.add_comm]
  have e2 : y * 2 ^ β * 2 ^ δ = y * 2 ^ δ * 2 ^ β := Nat.mul_right_comm ..
  constructor
  · intro k; exact Nat.le_of_mul_le_mul_right (by rw [← e1, ← e2]; exact Nat.mul_le_mul_right _ k) p2
  · intro k; exact Nat.le_of_mul_le_mul_right (by rw [e1, e2]; exact Nat.mul_le_mul_right _ k) p1
theorem scale' {x y α β γ δ : Nat} (h : α + δ = β + γ) : y * 2 ^ β ≤ x * 2 ^ α ↔ y * 2 ^ δ ≤ x * 2 ^ γ := scale (by omega)
theorem quot_z {a b : UInt64} (ha : DFin a) (hb : DFin b) (hz : zv b ≠ 0) : ∃ A B e, val64 (ddiv a b) = roundRatio b64 (sgn (val64 a) != sgn (val64 b)) A B e ∧ 0 < B ∧
    ∀ e0, e0 ≤ b64.qmin → e0 ≤ e → ∀ v, (inUnits A e e0 ≤ v * 2 ^ (b64.qmin - e0).toNat * B ↔ (zv a).natAbs * one64 ≤ v * (zv b).natAbs) ∧ (v * 2 ^ (b64.qmin - e0).toNat * B ≤ inUnits A e e0 ↔ v * (zv b).natAbs ≤ (zv a).natAbs * one64) := by
  obtain ⟨s, c, q, h1⟩ := ha
  obtain ⟨t, d, r, h2⟩ := hb
  have f1 := val64_fits a
  have f2 := val64_fits b
  rw [h1] at f1
  rw [h2] at f2
  have z1 : (zv a).natAbs = c * 2 ^ (q - b64.qmin).toNat := by unfold zv zval; rw [natAbs_signed, h1]; rfl
  have z2 : (zv b).natAbs = d * 2 ^ (r - b64.qmin).toNat := by unfold zv zval; rw [natAbs_signed, h2]; rfl
  have hd : d ≠ 0 := by
    intro hd
    rw [hd, Nat.zero_mul] at z2
    omega
  refine ⟨c, d, q - r, ?_, by omega, fun e0 k1 k2 v => ?_⟩
  · rw [val64_ddiv, h1, h2]
    show (if d = 0 then _ else roundRatio b64 (s != t) c d (q - r)) = _
    rw [if_neg hd]; rfl
  · have g1 := f1.2.1
    have g2 := f2.2.1
    have eA : (zv a).natAbs * one64 = c * 2 ^ ((q - b64.qmin).toNat + (-b64.qmin).toNat) := by rw [z1, ← pow_qmin64, Nat.mul_assoc, ← Nat.pow_add]
    have eB : v * (zv b).natAbs = v * d * 2 ^ (r - b64.qmin).toNat := by rw [z2, Nat.mul_assoc]
    have eC : v * 2 ^ (b64.qmin - e0).toNat * d = v * d * 2 ^ (b64.qmin - e0).toNat := Nat.mul_right_comm ..
    have hs : (q - r - e0).toNat + (r - b64.qmin).toNat = (b64.qmin - e0).toNat + ((q - b64.qmin).toNat + (-b64.qmin).toNat) := by
      have := qmin_b64
      omega
    rw [eA, eB, eC]
    exact ⟨scale hs, scale' hs⟩
theorem ddiv_sgn {a b : UInt64} (ha : DFin a) (hb : DFin b) (hz : zv b ≠ 0) : sgn (val64 (ddiv a b)) = (sgn (val64 a) != sgn (val64 b)) := by
  obtain ⟨A, B, e, h1, h2, h3⟩ := quot_z ha hb hz
  rw [h1, sgn_roundRatio]
theorem ddiv_le {a b : UInt64} (ha : DFin a) (hb : DFin b) (hz : zv b ≠ 0) {V : Datum} (fV : fits b64 V) (hV : V ≠ .nan) (h : (zv a).natAbs * one64 ≤ zmag b64 V * (zv b).natAbs) : zmag b64 (val64 (ddiv a b)) ≤ zmag b64 V := by
  obtain ⟨A, B, e, h1, h2, h3⟩ := quot_z ha hb hz
  rw [h1]
  exact zmag_roundRatio_le good_b64 h2 fV hV (Int.min_le_left _ _) (Int.min_le_right _ _) ((h3 (min b64.qmin e) (Int.min_le_left _ _) (Int.min_le_right _ _) _).1.mpr h)
theorem ddiv_ge {a b : UInt64} (ha : DFin a) (hb : DFin b) (hz : zv b ≠ 0) {V : Datum} (fV : fits b64 V) (h : zmag b64 V * (zv b).natAbs ≤ (zv a).natAbs * one64) : zmag b64 V ≤ zmag b64 (val64 (ddiv a b)) := by
  obtain ⟨A, B, e, h1, h2, h3⟩ := quot_z ha hb hz
  rw [h1]
  exact zmag_roundRatio_ge good_b64 h2 fV (Int.min_le_left _ _) (Int.min_le_right _ _) ((h3 (min b64.qmin e) (Int.min_le_left _ _) (Int.min_le_right _ _) _).2.mpr h)
theorem nz_of {b : UInt64} (hb : DFin b) (hz : zv b ≠ 0) : ¬ DZero b := by
  rintro ⟨s, q, h⟩
  apply hz
  unfold zv zval
  rw [h]
  show signed s (inUnits 0 q b64.qmin) = 0
  unfold inUnits
  rw [Nat.zero_mul, signed_zero]
theorem sign_help {sV sa sb : Bool} {m ma mb k : Nat} (hm : 0 < m) (hb : 0 < mb) (h : signed sV m * signed sb mb = signed sa ma * (k : Int)) : sV = (sa != sb) := by
  have h1 : 0 < (m : Int) * (mb : Int) := Int.mul_pos (by omega) (by omega)
  have h2 : 0 ≤ (ma : Int) * (k : Int) := Int.mul_nonneg (by omega) (by omega)
  cases sV <;> cases sa <;> cases sb <;> simp only [signed, if_true, Bool.false_eq_true, if_false, Int.neg_mul, Int.mul_neg, Int.neg_neg] at h <;> first | rfl | (exfalso; omega)
theorem ddiv_z {a b : UInt64} (ha : DFin a) (hb : DFin b) (hz : zv b ≠ 0) {V : Datum} (fV : fits b64 V) (hV : ∃ s c q, V = .fin s c q) (h : zval b64 V * zv b = zv a * (one64 : Int)) : DFin (ddiv a b) ∧ zv (ddiv a b) = zval b64 V := by
  have hn : zmag b64 V * (zv b).natAbs = (zv a).natAbs * one64 := by
    have := congrArg Int.natAbs h
    rw [Int.natAbs_mul, Int.natAbs_mul, Int.natAbs_natCast] at this
    rw [zmag_nat]; exact this
  have hm : zmag b64 (val64 (ddiv a b)) = zmag b64 V := Nat.le_antisymm (ddiv_le ha hb hz fV (fin_ne hV) (Nat.le_of_eq hn.symm)) (ddiv_ge ha hb hz fV (Nat.le_of_eq hn))
  have hq : zv (ddiv a b) = zval b64 V := by
    have e1 : zv (ddiv a b) = signed (sgn (val64 (ddiv a b))) (zmag b64 (val64 (ddiv a b))) := rfl
    rw [e1, hm, ddiv_sgn ha hb hz]
    by_cases h0 : zmag b64 V = 0
    · unfold zval; rw [h0, signed_zero, signed_zero]
    · have hb0 : 0 < zmag b64 (val64 b) := by rw [zmag_nat]; have : zv b ≠ 0 := hz; unfold zv at this; omega
      have := sign_help (sV := sgn V) (sa := sgn (val64 a)) (sb := sgn (val64 b)) (m := zmag b64 V) (ma := zmag b64 (val64 a)) (mb := zmag b64 (val64 b)) (k := one64) (by omega) hb0 h
      rw [← this]; rfl
  exact ⟨fin_to (ddiv_out ha.notNaN hb (nz_of hb hz)) fV hV hq, hq⟩
theorem i2d_z (x : Int32) : zv (i2d x) = x.toInt * (one64 : Int) := DInt_zval (i2d_int x)
theorem l2d_z {x : Int64} (h : x.toInt.natAbs ≤ 2 ^ 53) : zv (l2d x) = x.toInt * (one64 : Int) := DInt_zval (l2d_int h)
theorem cmp_z {a b : UInt64} (ha : DFin a) (hb : DFin b) : dcmp a b = some (compare (zv a) (zv b)) := dcmp_zval ha.ne_nan hb.ne_nan
theorem cmp_eq {a b : UInt64} (ha : DFin a) (hb : DFin b) (h : zv a = zv b) : dcmp a b = some .eq := by rw [cmp_z ha hb, (compare_eq_iff _ _).mpr h]
theorem cmp_lt {a b : UInt64} (ha : DFin a) (hb : DFin b) (h : zv a < zv b) : dcmp a b = some .lt := by rw [cmp_z ha hb, (compare_lt_iff _ _).mpr h]
theorem cmp_gt {a b : UInt64} (ha : DFin a) (hb : DFin b) (h : zv b < zv a) : dcmp a b = some .gt := by rw [cmp_z ha hb, (compare_gt_iff _ _).mpr h]
theorem i32b (x : Int32) : -2147483648 ≤ x.toInt ∧ x.toInt ≤ 2147483647 := by have h1 := Int32.toInt_lt x; have h2 := Int32.le_toInt x; omega
/-- half of the unit's weight -/
def half64 : Nat := 2 ^ 1073
theorem one_half : (one64 : Int) = 2 * (half64 : Int) := by
  have h : one64 = 2 * half64 := by unfold one64 half64; rw [show 1074 = 1073 + 1 from rfl, Nat.pow_succ, Nat.mul_comm]
  rw [h, Int.natCast_mul]; rfl
end Jvm.FP.Core.OwnFl
namespace Jvm.Pilot.@@N@@
open Jvm Jvm.ClassFile Sem Op Lib Jvm.Free Jvm.Stand Jvm.LawKit Jvm.RoadKit Bundle Jvm.Pilot.@@N@@.Jvm.D
theorem pd_0 : parseMethodDescriptor "()V" = some ⟨[], none⟩ := by decide +kernel
theorem pd_1 : parseMethodDescriptor "(IIII)V" = some ⟨[.int, .int, .int, .int], none⟩ := by decide +kernel
theorem pd_2 : parseMethodDescriptor "()D" = some ⟨[], some .double⟩ := by decide +kernel
theorem pn_0 : plainName "java/lang/Record" = true := by first | (simp [plainName, overriddenIn]; done) | decide +kernel
theorem pn_1 : plainName "com/example/culpa/culpa/FaultPlacement$Tie" = true := by first | (simp [plainName, overriddenIn]; done) | decide +kernel
theorem pn_2 : plainName "com/example/culpa/culpa/TieStandardRankPinLaw" = true := by first | (simp [plainName, overriddenIn]; done) | decide +kernel
theorem own_two : Jvm.FP.Core.OwnFl.zv 4611686018427387904 = 2 * (Jvm.FP.Core.one64 : Int) := by unfold Jvm.FP.Core.OwnFl.zv; decide +kernel
theorem own_twof : Jvm.FP.Core.DFin 4611686018427387904 := (Jvm.FP.Core.fin_bits _).mpr (by decide)
set_option maxRecDepth 65536 in
theorem own_tie (h s : Int32) : Jvm.Free.Fl.NoNaN64 (FP.ddiv (FP.i2d s) 4611686018427387904) ∧ Jvm.Free.Fl.NoNaN64 (FP.dadd (FP.i2d h) (FP.ddiv (FP.i2d s) 4611686018427387904)) ∧ Jvm.Free.Fl.NoNaN64 (FP.dmul (FP.dadd (FP.i2d h) (FP.ddiv (FP.i2d s) 4611686018427387904)) 4611686018427387904) ∧
    cmpValue (FP.dcmp (FP.dmul (FP.dadd (FP.i2d h) (FP.ddiv (FP.i2d s) 4611686018427387904)) 4611686018427387904) (FP.l2d ((2 : Int64) * h.toInt64 + s.toInt64))) .l = 0 := by
  have bh := Jvm.FP.Core.OwnFl.i32b h
  have bs := Jvm.FP.Core.OwnFl.i32b s
  have o := Jvm.FP.Core.OwnFl.one_pos
  have z2 := own_two
  obtain ⟨V, fV, hV, eV⟩ := Jvm.FP.Core.OwnFl.rep s.toInt 1073 (by omega) (by decide)
  obtain ⟨W, fW, hW, eW⟩ := Jvm.FP.Core.OwnFl.rep (2 * h.toInt + s.toInt) 1073 (by omega) (by decide)
  obtain ⟨U, fU, hU, eU⟩ := Jvm.FP.Core.OwnFl.rep (2 * h.toInt + s.toInt) 1074 (by omega) (by decide)
  have eh : ((2 ^ 1073 : Nat) : Int) = (Jvm.FP.Core.OwnFl.half64 : Int) := rfl
  have eo : ((2 ^ 1074 : Nat) : Int) = (Jvm.FP.Core.one64 : Int) := rfl
  rw [eh] at eV eW
  rw [eo] at eU
  have oh := Jvm.FP.Core.OwnFl.one_half
  have q1 := Jvm.FP.Core.OwnFl.ddiv_z (Jvm.FP.Core.i2d_fin s) own_twof (by rw [z2]; omega) fV hV (by
    rw [eV, z2, Jvm.FP.Core.OwnFl.i2d_z, oh]
    generalize (Jvm.FP.Core.OwnFl.half64 : Int) = k
    ac_rfl)
  have q2 := Jvm.FP.Core.OwnFl.dadd_z (Jvm.FP.Core.i2d_fin h) q1.1 fW hW (by
    rw [q1.2, eV, Jvm.FP.Core.OwnFl.i2d_z, eW, oh]
    generalize (Jvm.FP.Core.OwnFl.half64 : Int) = k
    rw [Int.add_mul, Int.mul_left_comm, Int.mul_assoc])
  have e2 : Jvm.FP.Core.OwnFl.zv (Jvm.FP.Core.dadd (Jvm.FP.Core.i2d h) (Jvm.FP.Core.ddiv (Jvm.FP.Core.i2d s) 4611686018427387904)) = (2 * h.toInt + s.toInt) * (Jvm.FP.Core.OwnFl.half64 : Int) := by
    rw [q2.2, q1.2, eV, Jvm.FP.Core.OwnFl.i2d_z, oh]
    generalize (Jvm.FP.Core.OwnFl.half64 : Int) = k
    rw [Int.add_mul, Int.mul_left_comm, Int.mul_assoc]
  have q3 := Jvm.FP.Core.OwnFl.dmul_z q2.1 own_twof fU hU (by
    rw [e2, z2, eU, oh]
    generalize (Jvm.FP.Core.OwnFl.half64 : Int) = k
    ac_rfl)
  have ei : ((2 : Int64) * h.toInt64 + s.toInt64).toInt = 2 * h.toInt + s.toInt := by
    have m1 : ((2 : Int64) * h.toInt64).toInt = 2 * h.toInt := by
      have t2 : (2 : Int64).toInt = 2 := by decide
      rw [Jvm.FP.Core.int64_mul (by rw [Int32.toInt_toInt64, t2]; omega) (by rw [Int32.toInt_toInt64, t2]; omega), Int32.toInt_toInt64, t2]
    rw [Jvm.FP.Core.int64_add (by rw [m1, Int32.toInt_toInt64]; omega) (by rw [m1, Int32.toInt_toInt64]; omega), m1, Int32.toInt_toInt64]
  refine ⟨Jvm.FP.Core.OwnFl.nn q1.1, Jvm.FP.Core.OwnFl.nn q2.1, Jvm.FP.Core.OwnFl.nn q3.1, ?_⟩
  have hc : FP.dcmp (FP.dmul (FP.dadd (FP.i2d h) (FP.ddiv (FP.i2d s) 4611686018427387904)) 4611686018427387904) (FP.l2d ((2 : Int64) * h.toInt64 + s.toInt64)) = some .eq :=
    Jvm.FP.Core.OwnFl.cmp_eq q3.1 (Jvm.FP.Core.l2d_fin _) (by rw [q3.2, eU, Jvm.FP.Core.OwnFl.l2d_z (by rw [ei]; omega), ei])
  rw [hc]; rfl
theorem d2_0 : decode jdk_30_method_1_code 0 = .ok (.aload_n 0, 1) := by decide +kernel
theorem d2_1 : decode jdk_30_method_1_code 1 = .ok (.invokespecial 1, 3) := by decide +kernel
theorem d2_4 : decode jdk_30_method_1_code 4 = .ok (.return_, 1) := by decide +kernel
theorem ef_2 (m : MethodId) (x0 : Addr) : entryFrame m #[(.ref x0)] 1 = mkF m 0 #[.val (.ref x0)] [] := by first | (simp [entryFrame, mkF, argsToLocals, Value.category]; done) | rfl
def Q2 (Z : State) (a1 : Addr) (h0 : Heap) (n0 : Nat) (v : Option Value) (h : Heap) (L : List Loc) : Prop := v = none ∧ Fr n0 L ∧ h = h0
set_option maxRecDepth 65536 in
set_option maxHeartbeats 40000000 in
theorem rm2 (l : Launch) (Z : State) (a0 : Array Value) (hw : ∀ d ∈ tables_1, d.before a0 Z = true) (ws : List Jvm.Cond) (a1 : Addr) (h0 : Heap) (n0 : Nat) (Z0 : n0 ≤ h0.size) :
    MetFree l (⟨"java/lang/Record", "<init>", "()V"⟩ : MethodName) (head1 (Jvm.Cond.code (⟨"java/lang/Record", "<init>", "()V"⟩ : MethodName) jdk_30_method_1_code 1 none :: ws) ({ frames := 1, cells := 0, slots := 0, locals := 12 } : Room)) (fun a U => a = #[(.ref a1)] ∧ Z.Warmed39 U.vm ∧ U.heap = h0) (fun _ _ _ _ _ => True) (fun _ U o U' => ∃ v L, o = .returned v ∧ Q2 Z a1 h0 n0 v U'.heap L ∧ FrameEnd U o U' L ({ frames := 1, cells := 0, slots := 0, locals := 12 } : Room).cells ({ frames := 1, cells := 0, slots := 0, locals := 12 } : Room).slots) := by
  refine MetFree.of_bodySF (plainFor_of_name pn_0) hisR ?_
  intro p e s m args below meth c s₁ Bd hml0 hP hK
  obtain ⟨rfl, hZ, hh⟩ := hP
  have hx := Bd.exec
  have hby := Bd.bytes
  have hml : c.maxLocals = 1 := hml0
  have hown : s.vm.findClass "java/lang/Record" = some m.cls := findClass_of_methodNamed Bd.named
  have hnm := (name_of_methodNamed Bd.named Bd.method).1
  have X0 : Stand p l e ({ frames := 1, cells := 0, slots := 0, locals := 12 } : Room) s m #[(.ref a1)] below meth c s₁ [] 0 0 := Stand.of_body Bd
  have e0 : s₁.heap = h0 := by rw [← hh, Bd.state]; rfl
  have N0 := Fr.nil n0
  show OwnEnds p e below s (Q2 Z a1 h0 n0) ({ frames := 1, cells := 0, slots := 0, locals := 12 } : Room).cells ({ frames := 1, cells := 0, slots := 0, locals := 12 } : Room).slots (s₁.setTop (entryFrame m #[(.ref a1)] 1))
  rw [ef_2]
  show OwnEnds _ _ _ _ _ _ _ (s₁.setTop (mkF m 0 #[.val (.ref a1)] []))
  refine OwnEnds.st (fun t k => XS.aloadN X0.here hx rfl (hb hby d2_0) rfl rfl k) ?_
  show OwnEnds _ _ _ _ _ _ _ (s₁.setTop (mkF m 1 #[.val (.ref a1)] [(.ref a1)]))
  obtain ⟨T1, X1, e1, st1⟩ := initO X0 hx hZ hown (hw _ (List.mem_of_getElem? (i := 11) rfl)) (hw _ (List.mem_of_getElem? (i := 12) rfl)) (hw _ (List.mem_of_getElem? (i := 13) rfl)) e0 (g := (mkF m 1 #[.val (.ref a1)] [(.ref a1)])) rfl (by rw [hml]; rfl) rfl (hb hby d2_1) (by decide) (W := 0) (by show 2 * 0 + _ ≤ _; exact Nat.le_of_eq rfl) (by decide)
  refine OwnEnds.st st1 ?_
  show OwnEnds _ _ _ _ _ _ _ (T1.setTop (mkF m 4 #[.val (.ref a1)] []))
  refine own_retV X1 hx Bd.returns Bd.notSynchronized (hb hby d2_4) ?_ (by decide) (by decide)
  show Q2 Z a1 h0 n0 _ T1.heap _
  rw [e1]
  exact ⟨rfl, N0, rfl⟩
theorem d1_0 : decode prog_7_method_1_code 0 = .ok (.aload_n 0, 1) := by decide +kernel
theorem d1_1 : decode prog_7_method_1_code 1 = .ok (.invokespecial 1, 3) := by decide +kernel
theorem d1_4 : decode prog_7_method_1_code 4 = .ok (.aload_n 0, 1) := by decide +kernel
theorem d1_5 : decode prog_7_method_1_code 5 = .ok (.iload_n 1, 1) := by decide +kernel
theorem d1_6 : decode prog_7_method_1_code 6 = .ok (.putfield 7, 3) := by decide +kernel
theorem d1_9 : decode prog_7_method_1_code 9 = .ok (.aload_n 0, 1) := by decide +kernel
theorem d1_10 : decode prog_7_method_1_code 10 = .ok (.iload_n 2, 1) := by decide +kernel
theorem d1_11 : decode prog_7_method_1_code 11 = .ok (.putfield 13, 3) := by decide +kernel
theorem d1_14 : decode prog_7_method_1_code 14 = .ok (.aload_n 0, 1) := by decide +kernel
theorem d1_15 : decode prog_7_method_1_code 15 = .ok (.iload_n 3, 1) := by decide +kernel
theorem d1_16 : decode prog_7_method_1_code 16 = .ok (.putfield 16, 3) := by decide +kernel
theorem d1_19 : decode prog_7_method_1_code 19 = .ok (.aload_n 0, 1) := by decide +kernel
theorem d1_20 : decode prog_7_method_1_code 20 = .ok (.iload 4, 2) := by decide +kernel
theorem d1_22 : decode prog_7_method_1_code 22 = .ok (.putfield 19, 3) := by decide +kernel
theorem d1_25 : decode prog_7_method_1_code 25 = .ok (.return_, 1) := by decide +kernel
theorem ef_1 (m : MethodId) (x0 : Addr) (x1 : Int32) (x2 : Int32) (x3 : Int32) (x4 : Int32) : entryFrame m #[(.ref x0), (.int x1), (.int x2), (.int x3), (.int x4)] 5 = mkF m 0 #[.val (.ref x0), .val (.int x1), .val (.int x2), .val (.int x3), .val (.int x4)] [] := by first | (simp [entryFrame, mkF, argsToLocals, Value.category]; done) | rfl
def Q1 (Z : State) (a1 : Addr) (p2 : Int32) (p3 : Int32) (p4 : Int32) (p5 : Int32) (u0 : Value) (u1 : Value) (u2 : Value) (u3 : Value) (h0 : Heap) (n0 : Nat) (v : Option Value) (h : Heap) (L : List Loc) : Prop := v = none ∧ Fr n0 L ∧ Keep h0 h [a1] ∧ Exa Z h a1 "com/example/culpa/culpa/FaultPlacement$Tie" ∧ Fld Z h a1 "com/example/culpa/culpa/FaultPlacement$Tie" "higher" "I" (.int p2) ∧ Fld Z h a1 "com/example/culpa/culpa/FaultPlacement$Tie" "higherFaulty" "I" (.int p3) ∧ Fld Z h a1 "com/example/culpa/culpa/FaultPlacement$Tie" "size" "I" (.int p4) ∧ Fld Z h a1 "com/example/culpa/culpa/FaultPlacement$Tie" "faulty" "I" (.int p5)
set_option maxRecDepth 65536 in
set_option maxHeartbeats 40000000 in
theorem rm1 (l : Launch) (Z : State) (a0 : Array Value) (hw : ∀ d ∈ tables_1, d.before a0 Z = true) (ws : List Jvm.Cond) (a1 : Addr) (p2 : Int32) (p3 : Int32) (p4 : Int32) (p5 : Int32) (u0 : Value) (u1 : Value) (u2 : Value) (u3 : Value) (h0 : Heap) (n0 : Nat) (Z0 : n0 ≤ h0.size) (E_a1 : Exa Z h0 a1 "com/example/culpa/culpa/FaultPlacement$Tie") (g_a1 : n0 ≤ a1) (F_higher : Fld Z h0 a1 "com/example/culpa/culpa/FaultPlacement$Tie" "higher" "I" u0) (F_higherFaulty : Fld Z h0 a1 "com/example/culpa/culpa/FaultPlacement$Tie" "higherFaulty" "I" u1) (F_size : Fld Z h0 a1 "com/example/culpa/culpa/FaultPlacement$Tie" "size" "I" u2) (F_faulty : Fld Z h0 a1 "com/example/culpa/culpa/FaultPlacement$Tie" "faulty" "I" u3) :
    MetFree l (⟨"com/example/culpa/culpa/FaultPlacement$Tie", "<init>", "(IIII)V"⟩ : MethodName) (head1 (Jvm.Cond.code (⟨"com/example/culpa/culpa/FaultPlacement$Tie", "<init>", "(IIII)V"⟩ : MethodName) prog_7_method_1_code 5 none :: ws) ({ frames := 2, cells := 0, slots := 0, locals := 24 } : Room)) (fun a U => a = #[(.ref a1), (.int p2), (.int p3), (.int p4), (.int p5)] ∧ Z.Warmed39 U.vm ∧ U.heap = h0) (fun _ _ _ _ _ => True) (fun _ U o U' => ∃ v L, o = .returned v ∧ Q1 Z a1 p2 p3 p4 p5 u0 u1 u2 u3 h0 n0 v U'.heap L ∧ FrameEnd U o U' L ({ frames := 2, cells := 0, slots := 0, locals := 24 } : Room).cells ({ frames := 2, cells := 0, slots := 0, locals := 24 } : Room).slots) := by
  refine MetFree.of_bodySF (plainFor_of_name pn_1) hisR ?_
  intro p e s m args below meth c s₁ Bd hml0 hP hK
  obtain ⟨rfl, hZ, hh⟩ := hP
  have hx := Bd.exec
  have hby := Bd.bytes
  have hml : c.maxLocals = 5 := hml0
  have hown : s.vm.findClass "com/example/culpa/culpa/FaultPlacement$Tie" = some m.cls := findClass_of_methodNamed Bd.named
  have hnm := (name_of_methodNamed Bd.named Bd.method).1
  have X0 : Stand p l e ({ frames := 2, cells := 0, slots := 0, locals := 24 } : Room) s m #[(.ref a1), (.int p2), (.int p3), (.int p4), (.int p5)] below meth c s₁ [] 0 0 := Stand.of_body Bd
  have e0 : s₁.heap = h0 := by rw [← hh, Bd.state]; rfl
  have N0 := Fr.nil n0
  show OwnEnds p e below s (Q1 Z a1 p2 p3 p4 p5 u0 u1 u2 u3 h0 n0) ({ frames := 2, cells := 0, slots := 0, locals := 24 } : Room).cells ({ frames := 2, cells := 0, slots := 0, locals := 24 } : Room).slots (s₁.setTop (entryFrame m #[(.ref a1), (.int p2), (.int p3), (.int p4), (.int p5)] 5))
  rw [ef_1]
  show OwnEnds _ _ _ _ _ _ _ (s₁.setTop (mkF m 0 #[.val (.ref a1), .val (.int p2), .val (.int p3), .val (.int p4), .val (.int p5)] []))
  refine OwnEnds.st (fun t k => XS.aloadN X0.here hx rfl (hb hby d1_0) rfl rfl k) ?_
  show OwnEnds _ _ _ _ _ _ _ (s₁.setTop (mkF m 1 #[.val (.ref a1), .val (.int p2), .val (.int p3), .val (.int p4), .val (.int p5)] [(.ref a1)]))
  obtain ⟨_, _, ⟨T1, L1, k1, n1⟩, -, X1, ⟨Lc1, hQ1, l1, y1, z1⟩, st1⟩ := X0.specialBack hx (y := (⟨"java/lang/Record", "<init>", "()V"⟩ : MethodName)) rfl hown (mvT hZ (hw _ (List.mem_of_getElem? (i := 6) rfl))) (mvT hZ (hw _ (List.mem_of_getElem? (i := 7) rfl))) (mvT hZ (hw _ (List.mem_of_getElem? (i := 10) rfl))) (by decide) (backOf (W := 0) (rm2 l Z a0 hw [] a1 h0 n0 Z0) hZ (hw _ (List.mem_of_getElem? (i := 10) rfl)) (hw _ (List.mem_of_getElem? (i := 9) rfl)) (by decide) (by decide)) (g := (mkF m 1 #[.val (.ref a1), .val (.int p2), .val (.int p3), .val (.int p4), .val (.int p5)] [(.ref a1)])) rfl (by rw [hml]; rfl) (Steps.refl _) (a := a1) (argsL := []) (rest := []) (lenOf pd_0 rfl) rfl (by show 2 * 0 + _ ≤ _; exact Nat.le_of_eq rfl) (hb hby d1_1) (fun _ _ => ⟨rfl, e0, (by decide : 0 + 0 ≤ _), (by decide : 0 + 0 ≤ _)⟩)
  dsimp only [Pt.U, Pt.locs, Pt.cells, Pt.slots] at X1 l1 y1 z1 st1 hQ1
  subst l1 y1 z1
  obtain ⟨rfl, N1q, hh1⟩ := hQ1
  have N1 := Fr.app N0 N1q
  refine OwnEnds.go st1 ?_
  show OwnEnds _ _ _ _ _ _ _ (T1.setTop (mkF m 4 #[.val (.ref a1), .val (.int p2), .val (.int p3), .val (.int p4), .val (.int p5)] []))
  refine OwnEnds.st (fun t k => XS.aloadN X1.here hx rfl (hb hby d1_4) rfl rfl k) ?_
  show OwnEnds _ _ _ _ _ _ _ (T1.setTop (mkF m 5 #[.val (.ref a1), .val (.int p2), .val (.int p3), .val (.int p4), .val (.int p5)] [(.ref a1)]))
  refine OwnEnds.st (fun t k => XS.iloadN X1.here hx rfl (hb hby d1_5) rfl k) ?_
  show OwnEnds _ _ _ _ _ _ _ (T1.setTop (mkF m 6 #[.val (.ref a1), .val (.int p2), .val (.int p3), .val (.int p4), .val (.int p5)] [(.int p2), (.ref a1)]))
  obtain ⟨T2, h2, X2, e2, W2, st2⟩ := putF X1 hx hZ hown (host := "") (Or.inl (hw _ (List.mem_of_getElem? (i := 14) rfl))) Via.refl hh1 F_higher E_a1 (Or.inr ⟨(hw _ (List.mem_of_getElem? (i := 15) rfl)), rfl, hnm⟩) (hw _ (List.mem_of_getElem? (i := 1) rfl)) (ty := .int) (by decide) rfl rfl (g := (mkF m 6 #[.val (.ref a1), .val (.int p2), .val (.int p3), .val (.int p4), .val (.int p5)] [(.int p2), (.ref a1)])) rfl rfl (hb hby d1_6)
  have N2 := Fr.snoc X2 N1 g_a1
  refine OwnEnds.st st2 ?_
  show OwnEnds _ _ _ _ _ _ _ (T2.setTop (mkF m 9 #[.val (.ref a1), .val (.int p2), .val (.int p3), .val (.int p4), .val (.int p5)] []))
  refine OwnEnds.st (fun t k => XS.aloadN X2.here hx rfl (hb hby d1_9) rfl rfl k) ?_
  show OwnEnds _ _ _ _ _ _ _ (T2.setTop (mkF m 10 #[.val (.ref a1), .val (.int p2), .val (.int p3), .val (.int p4), .val (.int p5)] [(.ref a1)]))
  refine OwnEnds.st (fun t k => XS.iloadN X2.here hx rfl (hb hby d1_10) rfl k) ?_
  show OwnEnds _ _ _ _ _ _ _ (T2.setTop (mkF m 11 #[.val (.ref a1), .val (.int p2), .val (.int p3), .val (.int p4), .val (.int p5)] [(.int p3), (.ref a1)]))
  obtain ⟨T3, h3, X3, e3, W3, st3⟩ := putF X2 hx hZ hown (host := "") (Or.inl (hw _ (List.mem_of_getElem? (i := 16) rfl))) Via.refl e2 (F_higherFaulty.other W2 (Or.inr (slot_ne (Or.inr (hw _ (List.mem_of_getElem? (i := 17) rfl))) (Or.inr (hw _ (List.mem_of_getElem? (i := 15) rfl))) (by decide) (t := .int) (t' := .int) (by decide) (by decide)))) (E_a1.wr W2) (Or.inr ⟨(hw _ (List.mem_of_getElem? (i := 17) rfl)), rfl, hnm⟩) (hw _ (List.mem_of_getElem? (i := 1) rfl)) (ty := .int) (by decide) rfl rfl (g := (mkF m 11 #[.val (.ref a1), .val (.int p2), .val (.int p3), .val (.int p4), .val (.int p5)] [(.int p3), (.ref a1)])) rfl rfl (hb hby d1_11)
  have N3 := Fr.snoc X3 N2 g_a1
  refine OwnEnds.st st3 ?_
  show OwnEnds _ _ _ _ _ _ _ (T3.setTop (mkF m 14 #[.val (.ref a1), .val (.int p2), .val (.int p3), .val (.int p4), .val (.int p5)] []))
  refine OwnEnds.st (fun t k => XS.aloadN X3.here hx rfl (hb hby d1_14) rfl rfl k) ?_
  show OwnEnds _ _ _ _ _ _ _ (T3.setTop (mkF m 15 #[.val (.ref a1), .val (.int p2), .val (.int p3), .val (.int p4), .val (.int p5)] [(.ref a1)]))
  refine OwnEnds.st (fun t k => XS.iloadN X3.here hx rfl (hb hby d1_15) rfl k) ?_
  show OwnEnds _ _ _ _ _ _ _ (T3.setTop (mkF m 16 #[.val (.ref a1), .val (.int p2), .val (.int p3), .val (.int p4), .val (.int p5)] [(.int p4), (.ref a1)]))
  obtain ⟨T4, h4, X4, e4, W4, st4⟩ := putF X3 hx hZ hown (host := "") (Or.inl (hw _ (List.mem_of_getElem? (i := 18) rfl))) Via.refl e3 ((F_size.other W2 (Or.inr (slot_ne (Or.inr (hw _ (List.mem_of_getElem? (i := 19) rfl))) (Or.inr (hw _ (List.mem_of_getElem? (i := 15) rfl))) (by decide) (t := .int) (t' := .int) (by decide) (by decide)))).other W3 (Or.inr (slot_ne (Or.inr (hw _ (List.mem_of_getElem? (i := 19) rfl))) (Or.inr (hw _ (List.mem_of_getElem? (i := 17) rfl))) (by decide) (t := .int) (t' := .int) (by decide) (by decide)))) ((E_a1.wr W2).wr W3) (Or.inr ⟨(hw _ (List.mem_of_getElem? (i := 19) rfl)), rfl, hnm⟩) (hw _ (List.mem_of_getElem? (i := 1) rfl)) (ty := .int) (by decide) rfl rfl (g := (mkF m 16 #[.val (.ref a1), .val (.int p2), .val (.int p3), .val (.int p4), .val (.int p5)] [(.int p4), (.ref a1)])) rfl rfl (hb hby d1_16)
  have N4 := Fr.snoc X4 N3 g_a1
  refine OwnEnds.st st4 ?_
  show OwnEnds _ _ _ _ _ _ _ (T4.setTop (mkF m 19 #[.val (.ref a1), .val (.int p2), .val (.int p3), .val (.int p4), .val (.int p5)] []))
  refine OwnEnds.st (fun t k => XS.aloadN X4.here hx rfl (hb hby d1_19) rfl rfl k) ?_
  show OwnEnds _ _ _ _ _ _ _ (T4.setTop (mkF m 20 #[.val (.ref a1), .val (.int p2), .val (.int p3), .val (.int p4), .val (.int p5)] [(.ref a1)]))
  refine OwnEnds.st (fun t k => XS.iload X4.here hx rfl (hb hby d1_20) rfl k) ?_
  show OwnEnds _ _ _ _ _ _ _ (T4.setTop (mkF m 22 #[.val (.ref a1), .val (.int p2), .val (.int p3), .val (.int p4), .val (.int p5)] [(.int p5), (.ref a1)]))
  obtain ⟨T5, h5, X5, e5, W5, st5⟩ := putF X4 hx hZ hown (host := "") (Or.inl (hw _ (List.mem_of_getElem? (i := 20) rfl))) Via.refl e4 (((F_faulty.other W2 (Or.inr (slot_ne (Or.inr (hw _ (List.mem_of_getElem? (i := 21) rfl))) (Or.inr (hw _ (List.mem_of_getElem? (i := 15) rfl))) (by decide) (t := .int) (t' := .int) (by decide) (by decide)))).other W3 (Or.inr (slot_ne (Or.inr (hw _ (List.mem_of_getElem? (i := 21) rfl))) (Or.inr (hw _ (List.mem_of_getElem? (i := 17) rfl))) (by decide) (t := .int) (t' := .int) (by decide) (by decide)))).other W4 (Or.inr (slot_ne (Or.inr (hw _ (List.mem_of_getElem? (i := 21) rfl))) (Or.inr (hw _ (List.mem_of_getElem? (i := 19) rfl))) (by decide) (t := .int) (t' := .int) (by decide) (by decide)))) (((E_a1.wr W2).wr W3).wr W4) (Or.inr ⟨(hw _ (List.mem_of_getElem? (i := 21) rfl)), rfl, hnm⟩) (hw _ (List.mem_of_getElem? (i := 1) rfl)) (ty := .int) (by decide) rfl rfl (g := (mkF m 22 #[.val (.ref a1), .val (.int p2), .val (.int p3), .val (.int p4), .val (.int p5)] [(.int p5), (.ref a1)])) rfl rfl (hb hby d1_22)
  have N5 := Fr.snoc X5 N4 g_a1
  refine OwnEnds.st st5 ?_
  show OwnEnds _ _ _ _ _ _ _ (T5.setTop (mkF m 25 #[.val (.ref a1), .val (.int p2), .val (.int p3), .val (.int p4), .val (.int p5)] []))
  refine own_retV X5 hx Bd.returns Bd.notSynchronized (hb hby d1_25) ?_ (by decide) (by decide)
  show Q1 Z a1 p2 p3 p4 p5 u0 u1 u2 u3 h0 n0 _ T5.heap _
  rw [e5]
  exact ⟨rfl, N5, (((((Keep.refl h0 [a1]).wr W2 (Or.inl (List.mem_of_getElem? (i := 0) rfl))).wr W3 (Or.inl (List.mem_of_getElem? (i := 0) rfl))).wr W4 (Or.inl (List.mem_of_getElem? (i := 0) rfl))).wr W5 (Or.inl (List.mem_of_getElem? (i := 0) rfl))), ((((E_a1.wr W2).wr W3).wr W4).wr W5), ((((F_higher.same W2).other W3 (Or.inr (slot_ne (Or.inr (hw _ (List.mem_of_getElem? (i := 15) rfl))) (Or.inr (hw _ (List.mem_of_getElem? (i := 17) rfl))) (by decide) (t := .int) (t' := .int) (by decide) (by decide)))).other W4 (Or.inr (slot_ne (Or.inr (hw _ (List.mem_of_getElem? (i := 15) rfl))) (Or.inr (hw _ (List.mem_of_getElem? (i := 19) rfl))) (by decide) (t := .int) (t' := .int) (by decide) (by decide)))).other W5 (Or.inr (slot_ne (Or.inr (hw _ (List.mem_of_getElem? (i := 15) rfl))) (Or.inr (hw _ (List.mem_of_getElem? (i := 21) rfl))) (by decide) (t := .int) (t' := .int) (by decide) (by decide)))), ((((F_higherFaulty.other W2 (Or.inr (slot_ne (Or.inr (hw _ (List.mem_of_getElem? (i := 17) rfl))) (Or.inr (hw _ (List.mem_of_getElem? (i := 15) rfl))) (by decide) (t := .int) (t' := .int) (by decide) (by decide)))).same W3).other W4 (Or.inr (slot_ne (Or.inr (hw _ (List.mem_of_getElem? (i := 17) rfl))) (Or.inr (hw _ (List.mem_of_getElem? (i := 19) rfl))) (by decide) (t := .int) (t' := .int) (by decide) (by decide)))).other W5 (Or.inr (slot_ne (Or.inr (hw _ (List.mem_of_getElem? (i := 17) rfl))) (Or.inr (hw _ (List.mem_of_getElem? (i := 21) rfl))) (by decide) (t := .int) (t' := .int) (by decide) (by decide)))), ((((F_size.other W2 (Or.inr (slot_ne (Or.inr (hw _ (List.mem_of_getElem? (i := 19) rfl))) (Or.inr (hw _ (List.mem_of_getElem? (i := 15) rfl))) (by decide) (t := .int) (t' := .int) (by decide) (by decide)))).other W3 (Or.inr (slot_ne (Or.inr (hw _ (List.mem_of_getElem? (i := 19) rfl))) (Or.inr (hw _ (List.mem_of_getElem? (i := 17) rfl))) (by decide) (t := .int) (t' := .int) (by decide) (by decide)))).same W4).other W5 (Or.inr (slot_ne (Or.inr (hw _ (List.mem_of_getElem? (i := 19) rfl))) (Or.inr (hw _ (List.mem_of_getElem? (i := 21) rfl))) (by decide) (t := .int) (t' := .int) (by decide) (by decide)))), ((((F_faulty.other W2 (Or.inr (slot_ne (Or.inr (hw _ (List.mem_of_getElem? (i := 21) rfl))) (Or.inr (hw _ (List.mem_of_getElem? (i := 15) rfl))) (by decide) (t := .int) (t' := .int) (by decide) (by decide)))).other W3 (Or.inr (slot_ne (Or.inr (hw _ (List.mem_of_getElem? (i := 21) rfl))) (Or.inr (hw _ (List.mem_of_getElem? (i := 17) rfl))) (by decide) (t := .int) (t' := .int) (by decide) (by decide)))).other W4 (Or.inr (slot_ne (Or.inr (hw _ (List.mem_of_getElem? (i := 21) rfl))) (Or.inr (hw _ (List.mem_of_getElem? (i := 19) rfl))) (by decide) (t := .int) (t' := .int) (by decide) (by decide)))).same W5)⟩
theorem d4_0 : decode prog_7_method_2_code 0 = .ok (.aload_n 0, 1) := by decide +kernel
theorem d4_1 : decode prog_7_method_2_code 1 = .ok (.getfield 7, 3) := by decide +kernel
theorem d4_4 : decode prog_7_method_2_code 4 = .ok (.i2d, 1) := by decide +kernel
theorem d4_5 : decode prog_7_method_2_code 5 = .ok (.aload_n 0, 1) := by decide +kernel
theorem d4_6 : decode prog_7_method_2_code 6 = .ok (.getfield 16, 3) := by decide +kernel
theorem d4_9 : decode prog_7_method_2_code 9 = .ok (.i2d, 1) := by decide +kernel
theorem d4_10 : decode prog_7_method_2_code 10 = .ok (.ldc2_w 22, 3) := by decide +kernel
theorem d4_13 : decode prog_7_method_2_code 13 = .ok (.ddiv, 1) := by decide +kernel
theorem d4_14 : decode prog_7_method_2_code 14 = .ok (.dadd, 1) := by decide +kernel
theorem d4_15 : decode prog_7_method_2_code 15 = .ok (.dreturn, 1) := by decide +kernel
theorem ef_4 (m : MethodId) (x0 : Addr) : entryFrame m #[(.ref x0)] 1 = mkF m 0 #[.val (.ref x0)] [] := by first | (simp [entryFrame, mkF, argsToLocals, Value.category]; done) | rfl
def Q4 (Z : State) (a1 : Addr) (p2 : Int32) (p4 : Int32) (h0 : Heap) (n0 : Nat) (v : Option Value) (h : Heap) (L : List Loc) : Prop := v = some (.double (FP.dadd (FP.i2d p2) (FP.ddiv (FP.i2d p4) 4611686018427387904))) ∧ Fr n0 L ∧ h = h0
set_option maxRecDepth 65536 in
set_option maxHeartbeats 40000000 in
theorem rm4 (l : Launch) (Z : State) (a0 : Array Value) (hw : ∀ d ∈ tables_1, d.before a0 Z = true) (ws : List Jvm.Cond) (a1 : Addr) (p2 : Int32) (p4 : Int32) (h0 : Heap) (n0 : Nat) (Z0 : n0 ≤ h0.size) (F_h : Fld Z h0 a1 "com/example/culpa/culpa/FaultPlacement$Tie" "higher" "I" (.int p2)) (F_s : Fld Z h0 a1 "com/example/culpa/culpa/FaultPlacement$Tie" "size" "I" (.int p4)) :
    MetFree l (⟨"com/example/culpa/culpa/FaultPlacement$Tie", "standardRank", "()D"⟩ : MethodName) (head1 (Jvm.Cond.code (⟨"com/example/culpa/culpa/FaultPlacement$Tie", "standardRank", "()D"⟩ : MethodName) prog_7_method_2_code 1 (some .double) :: ws) ({ frames := 0, cells := 0, slots := 0, locals := 0 } : Room)) (fun a U => a = #[(.ref a1)] ∧ Z.Warmed39 U.vm ∧ U.heap = h0) (fun _ _ _ _ _ => True) (fun _ U o U' => ∃ v L, o = .returned v ∧ Q4 Z a1 p2 p4 h0 n0 v U'.heap L ∧ FrameEnd U o U' L ({ frames := 0, cells := 0, slots := 0, locals := 0 } : Room).cells ({ frames := 0, cells := 0, slots := 0, locals := 0 } : Room).slots) := by
  refine MetFree.of_bodySF (plainFor_of_name pn_1) hisR ?_
  intro p e s m args below meth c s₁ Bd hml0 hP hK
  obtain ⟨rfl, hZ, hh⟩ := hP
  have hx := Bd.exec
  have hby := Bd.bytes
  have hml : c.maxLocals = 1 := hml0
  have hown : s.vm.findClass "com/example/culpa/culpa/FaultPlacement$Tie" = some m.cls := findClass_of_methodNamed Bd.named
  have hnm := (name_of_methodNamed Bd.named Bd.method).1
  have X0 : Stand p l e ({ frames := 0, cells := 0, slots := 0, locals := 0 } : Room) s m #[(.ref a1)] below meth c s₁ [] 0 0 := Stand.of_body Bd
  have e0 : s₁.heap = h0 := by rw [← hh, Bd.state]; rfl
  have N0 := Fr.nil n0
  show OwnEnds p e below s (Q4 Z a1 p2 p4 h0 n0) ({ frames := 0, cells := 0, slots := 0, locals := 0 } : Room).cells ({ frames := 0, cells := 0, slots := 0, locals := 0 } : Room).slots (s₁.setTop (entryFrame m #[(.ref a1)] 1))
  rw [ef_4]
  show OwnEnds _ _ _ _ _ _ _ (s₁.setTop (mkF m 0 #[.val (.ref a1)] []))
  refine OwnEnds.st (fun t k => XS.aloadN X0.here hx rfl (hb hby d4_0) rfl rfl k) ?_
  show OwnEnds _ _ _ _ _ _ _ (s₁.setTop (mkF m 1 #[.val (.ref a1)] [(.ref a1)]))
  obtain ⟨T1, X1, e1, st1⟩ := getF X0 hx hZ hown (host := "") (Or.inl (hw _ (List.mem_of_getElem? (i := 14) rfl))) Via.refl e0 F_h (g := (mkF m 1 #[.val (.ref a1)] [(.ref a1)])) rfl rfl (hb hby d4_1)
  refine OwnEnds.st st1 ?_
  show OwnEnds _ _ _ _ _ _ _ (T1.setTop (mkF m 4 #[.val (.ref a1)] [(.int p2)]))
  refine OwnEnds.st (fun t k => XS.i2dS X1.here hx rfl (hb hby d4_4) rfl rfl k) ?_
  show OwnEnds _ _ _ _ _ _ _ (T1.setTop (mkF m 5 #[.val (.ref a1)] [(.double (FP.i2d p2))]))
  refine OwnEnds.st (fun t k => XS.aloadN X1.here hx rfl (hb hby d4_5) rfl rfl k) ?_
  show OwnEnds _ _ _ _ _ _ _ (T1.setTop (mkF m 6 #[.val (.ref a1)] [(.ref a1), (.double (FP.i2d p2))]))
  obtain ⟨T2, X2, e2, st2⟩ := getF X1 hx hZ hown (host := "") (Or.inl (hw _ (List.mem_of_getElem? (i := 18) rfl))) Via.refl e1 F_s (g := (mkF m 6 #[.val (.ref a1)] [(.ref a1), (.double (FP.i2d p2))])) rfl rfl (hb hby d4_6)
  refine OwnEnds.st st2 ?_
  show OwnEnds _ _ _ _ _ _ _ (T2.setTop (mkF m 9 #[.val (.ref a1)] [(.int p4), (.double (FP.i2d p2))]))
  refine OwnEnds.st (fun t k => XS.i2dS X2.here hx rfl (hb hby d4_9) rfl rfl k) ?_
  show OwnEnds _ _ _ _ _ _ _ (T2.setTop (mkF m 10 #[.val (.ref a1)] [(.double (FP.i2d p4)), (.double (FP.i2d p2))]))
  refine OwnEnds.st (fun t k => X2.ldc2DoubleC hx hown (mvT hZ (hw _ (List.mem_of_getElem? (i := 27) rfl))) (g := (mkF m 10 #[.val (.ref a1)] [(.double (FP.i2d p4)), (.double (FP.i2d p2))])) rfl (hb hby d4_10) t k) ?_
  show OwnEnds _ _ _ _ _ _ _ (T2.setTop (mkF m 13 #[.val (.ref a1)] [(.double (4611686018427387904 : UInt64)), (.double (FP.i2d p4)), (.double (FP.i2d p2))]))
  refine OwnEnds.st (fun t k => XS.ddivS X2.here hx rfl (hb hby d4_13) rfl (own_tie p2 p4).1 rfl k) ?_
  show OwnEnds _ _ _ _ _ _ _ (T2.setTop (mkF m 14 #[.val (.ref a1)] [(.double (FP.ddiv (FP.i2d p4) (4611686018427387904 : UInt64))), (.double (FP.i2d p2))]))
  refine OwnEnds.st (fun t k => XS.daddS X2.here hx rfl (hb hby d4_14) rfl (own_tie p2 p4).2.1 rfl k) ?_
  show OwnEnds _ _ _ _ _ _ _ (T2.setTop (mkF m 15 #[.val (.ref a1)] [(.double (FP.dadd (FP.i2d p2) (FP.ddiv (FP.i2d p4) (4611686018427387904 : UInt64))))]))
  refine own_retD X2 hx Bd.returns Bd.notSynchronized (hb hby d4_15) ?_ (by decide) (by decide)
  show Q4 Z a1 p2 p4 h0 n0 _ T2.heap _
  rw [e2]
  exact ⟨rfl, N0, rfl⟩
theorem ef_0 (m : MethodId) (x0 : Int32) (x1 : Int32) (x2 : Int32) (x3 : Int32) : entryFrame m #[(.int x0), (.int x1), (.int x2), (.int x3)] maxLocals = mkF m 0 #[.val (.int x0), .val (.int x1), .val (.int x2), .val (.int x3), .unset, .unset, .unset, .unset, .unset] [] := by first | (simp [entryFrame, mkF, argsToLocals, Value.category, maxLocals]; done) | rfl
def Q0 (Z : State) (p1 : Int32) (p2 : Int32) (p3 : Int32) (p4 : Int32) (h0 : Heap) (n0 : Nat) (v : Option Value) (h : Heap) (L : List Loc) : Prop := v = some (.int 1) ∧ Fr n0 L
set_option maxRecDepth 65536 in
set_option maxHeartbeats 40000000 in
theorem rm0 (l : Launch) (Z : State) (a0 : Array Value) (hw : ∀ d ∈ tables_1, d.before a0 Z = true) (ws : List Jvm.Cond) (p1 : Int32) (p2 : Int32) (p3 : Int32) (p4 : Int32) (h0 : Heap) (n0 : Nat) (Z0 : n0 ≤ h0.size) :
    MetFree l x (head1 (Jvm.Cond.code x code maxLocals ret :: ws) room_1) (fun a U => a = #[(.int p1), (.int p2), (.int p3), (.int p4)] ∧ Z.Warmed39 U.vm ∧ U.heap = h0) (fun _ _ _ _ _ => True) (fun _ U o U' => ∃ v L, o = .returned v ∧ Q0 Z p1 p2 p3 p4 h0 n0 v U'.heap L ∧ FrameEnd U o U' L room_1.cells room_1.slots) := by
  refine MetFree.of_bodySF (plainFor_of_name pn_2) hisR ?_
  intro p e s m args below meth c s₁ Bd hml0 hP hK
  obtain ⟨rfl, hZ, hh⟩ := hP
  have hx := Bd.exec
  have hby := Bd.bytes
  have hml : c.maxLocals = 9 := hml0
  have hown : s.vm.findClass "com/example/culpa/culpa/TieStandardRankPinLaw" = some m.cls := findClass_of_methodNamed Bd.named
  have hnm := (name_of_methodNamed Bd.named Bd.method).1
  have X0 : Stand p l e room_1 s m #[(.int p1), (.int p2), (.int p3), (.int p4)] below meth c s₁ [] 0 0 := Stand.of_body Bd
  have e0 : s₁.heap = h0 := by rw [← hh, Bd.state]; rfl
  have N0 := Fr.nil n0
  show OwnEnds p e below s (Q0 Z p1 p2 p3 p4 h0 n0) room_1.cells room_1.slots (s₁.setTop (entryFrame m #[(.int p1), (.int p2), (.int p3), (.int p4)] maxLocals))
  rw [ef_0]
  show OwnEnds _ _ _ _ _ _ _ (s₁.setTop (mkF m 0 #[.val (.int p1), .val (.int p2), .val (.int p3), .val (.int p4), .unset, .unset, .unset, .unset, .unset] []))
  obtain ⟨T1, h1, X1, e1, E1, A1, D1, -, st1⟩ := newO X0 hx hZ hown (hw _ (List.mem_of_getElem? (i := 0) rfl)) (hw _ (List.mem_of_getElem? (i := 1) rfl)) (hw _ (List.mem_of_getElem? (i := 2) rfl)) e0 (g := (mkF m 0 #[.val (.int p1), .val (.int p2), .val (.int p3), .val (.int p4), .unset, .unset, .unset, .unset, .unset] [])) rfl (hb hby at_0) (by decide) (by decide)
  obtain ⟨b1, g1⟩ : ∃ z, z = h0.size := ⟨_, rfl⟩
  rw [← g1] at A1 D1 st1
  refine OwnEnds.st st1 ?_
  show OwnEnds _ _ _ _ _ _ _ (T1.setTop (mkF m 3 #[.val (.int p1), .val (.int p2), .val (.int p3), .val (.int p4), .unset, .unset, .unset, .unset, .unset] [(.ref b1)]))
  refine OwnEnds.st (fun t k => XS.dup X1.here hx rfl (hb hby at_3) rfl rfl k) ?_
  show OwnEnds _ _ _ _ _ _ _ (T1.setTop (mkF m 4 #[.val (.int p1), .val (.int p2), .val (.int p3), .val (.int p4), .unset, .unset, .unset, .unset, .unset] [(.ref b1), (.ref b1)]))
  refine OwnEnds.st (fun t k => XS.iloadN X1.here hx rfl (hb hby at_4) rfl k) ?_
  show OwnEnds _ _ _ _ _ _ _ (T1.setTop (mkF m 5 #[.val (.int p1), .val (.int p2), .val (.int p3), .val (.int p4), .unset, .unset, .unset, .unset, .unset] [(.int p1), (.ref b1), (.ref b1)]))
  refine OwnEnds.st (fun t k => XS.iloadN X1.here hx rfl (hb hby at_5) rfl k) ?_
  show OwnEnds _ _ _ _ _ _ _ (T1.setTop (mkF m 6 #[.val (.int p1), .val (.int p2), .val (.int p3), .val (.int p4), .unset, .unset, .unset, .unset, .unset] [(.int p2), (.int p1), (.ref b1), (.ref b1)]))
  refine OwnEnds.st (fun t k => XS.iloadN X1.here hx rfl (hb hby at_6) rfl k) ?_
  show OwnEnds _ _ _ _ _ _ _ (T1.setTop (mkF m 7 #[.val (.int p1), .val (.int p2), .val (.int p3), .val (.int p4), .unset, .unset, .unset, .unset, .unset] [(.int p3), (.int p2), (.int p1), (.ref b1), (.ref b1)]))
  refine OwnEnds.st (fun t k => XS.iloadN X1.here hx rfl (hb hby at_7) rfl k) ?_
  show OwnEnds _ _ _ _ _ _ _ (T1.setTop (mkF m 8 #[.val (.int p1), .val (.int p2), .val (.int p3), .val (.int p4), .unset, .unset, .unset, .unset, .unset] [(.int p4), (.int p3), (.int p2), (.int p1), (.ref b1), (.ref b1)]))
  have F_higher : Fld Z h1 b1 "com/example/culpa/culpa/FaultPlacement$Tie" "higher" "I" (.int (0 : Int32)) := D1 (Or.inr (hw _ (List.mem_of_getElem? (i := 15) rfl))) (ty := .int) (by decide)
  have F_higherFaulty : Fld Z h1 b1 "com/example/culpa/culpa/FaultPlacement$Tie" "higherFaulty" "I" (.int (0 : Int32)) := D1 (Or.inr (hw _ (List.mem_of_getElem? (i := 17) rfl))) (ty := .int) (by decide)
  have F_size : Fld Z h1 b1 "com/example/culpa/culpa/FaultPlacement$Tie" "size" "I" (.int (0 : Int32)) := D1 (Or.inr (hw _ (List.mem_of_getElem? (i := 19) rfl))) (ty := .int) (by decide)
  have F_faulty : Fld Z h1 b1 "com/example/culpa/culpa/FaultPlacement$Tie" "faulty" "I" (.int (0 : Int32)) := D1 (Or.inr (hw _ (List.mem_of_getElem? (i := 21) rfl))) (ty := .int) (by decide)
  have gb : n0 ≤ b1 := Nat.le_trans Z0 (Nat.le_of_eq g1.symm)
  have Zb : n0 ≤ h1.size := Nat.le_trans Z0 E1.1
  obtain ⟨_, _, ⟨T2, L2, k2, n2⟩, -, X2, ⟨Lc2, hQ2, l2, y2, z2⟩, st2⟩ := X1.specialBack hx (y := (⟨"com/example/culpa/culpa/FaultPlacement$Tie", "<init>", "(IIII)V"⟩ : MethodName)) rfl hown (mvT hZ (hw _ (List.mem_of_getElem? (i := 3) rfl))) (mvT hZ (hw _ (List.mem_of_getElem? (i := 4) rfl))) (mvT hZ (hw _ (List.mem_of_getElem? (i := 5) rfl))) (by decide) (backOf (W := 1) (rm1 l Z a0 hw [] b1 p1 p2 p3 p4 _ _ _ _ h1 n0 Zb A1 gb F_higher F_higherFaulty F_size F_faulty) hZ (hw _ (List.mem_of_getElem? (i := 5) rfl)) (hw _ (List.mem_of_getElem? (i := 2) rfl)) (by decide) (by decide)) (g := (mkF m 8 #[.val (.int p1), .val (.int p2), .val (.int p3), .val (.int p4), .unset, .unset, .unset, .unset, .unset] [(.int p4), (.int p3), (.int p2), (.int p1), (.ref b1), (.ref b1)])) rfl (by rw [hml]; rfl) (Steps.refl _) (a := b1) (argsL := [(.int p1), (.int p2), (.int p3), (.int p4)]) (rest := [(.ref b1)]) (lenOf pd_1 rfl) rfl (by show 2 * 0 + _ ≤ _; exact Nat.le_of_eq rfl) (hb hby at_8) (fun _ _ => ⟨rfl, e1, (by decide : 1 + 0 ≤ _), (by decide : 4 + 0 ≤ _)⟩)
  dsimp only [Pt.U, Pt.locs, Pt.cells, Pt.slots] at X2 l2 y2 z2 st2 hQ2
  subst l2 y2 z2
  obtain ⟨rfl, N2q, K2, E2, Fh2, Ff2, Fs2, Fq2⟩ := hQ2
  have N2 := Fr.app N0 N2q
  refine OwnEnds.go st2 ?_
  show OwnEnds _ _ _ _ _ _ _ (T2.setTop (mkF m 11 #[.val (.int p1), .val (.int p2), .val (.int p3), .val (.int p4), .unset, .unset, .unset, .unset, .unset] [(.ref b1)]))
  have Zc : n0 ≤ T2.heap.size := Nat.le_trans Zb K2.1
  refine OwnEnds.st (fun t k => XS.astore X2.here hx rfl (hb hby at_11) rfl rfl (l' := #[.val (.int p1), .val (.int p2), .val (.int p3), .val (.int p4), .val (.ref b1), .unset, .unset, .unset, .unset]) rfl k) ?_
  show OwnEnds _ _ _ _ _ _ _ (T2.setTop (mkF m 13 #[.val (.int p1), .val (.int p2), .val (.int p3), .val (.int p4), .val (.ref b1), .unset, .unset, .unset, .unset] []))
  refine OwnEnds.st (fun t k => XS.aload X2.here hx rfl (hb hby at_13) rfl rfl k) ?_
  show OwnEnds _ _ _ _ _ _ _ (T2.setTop (mkF m 15 #[.val (.int p1), .val (.int p2), .val (.int p3), .val (.int p4), .val (.ref b1), .unset, .unset, .unset, .unset] [(.ref b1)]))
  obtain ⟨cq3, kq3, q3a, q3b, q3c⟩ := isOf hZ rfl (E2)
  obtain ⟨_, _, ⟨T3, L3, k3, n3⟩, -, X3, ⟨Lc3, hQ3, l3, y3, z3⟩, st3⟩ := X2.virtualBack hx (y := (⟨"com/example/culpa/culpa/FaultPlacement$Tie", "standardRank", "()D"⟩ : MethodName)) (z := (⟨"com/example/culpa/culpa/FaultPlacement$Tie", "standardRank", "()D"⟩ : MethodName)) hown (mvT hZ (hw _ (List.mem_of_getElem? (i := 22) rfl))) (mvT hZ (hw _ (List.mem_of_getElem? (i := 23) rfl))) (notFace_of_selects (args := #[]) (mvT hZ (hw _ (List.mem_of_getElem? (i := 25) rfl)))) (mvT hZ (hw _ (List.mem_of_getElem? (i := 25) rfl))) (mvT hZ (hw _ (List.mem_of_getElem? (i := 24) rfl))) (by decide) (backOf (W := 0) (rm4 l Z a0 hw [] b1 p1 p3 T2.heap n0 Zc Fh2 Fs2) hZ (hw _ (List.mem_of_getElem? (i := 26) rfl)) (hw _ (List.mem_of_getElem? (i := 2) rfl)) (by decide) (by decide)) q3a q3c (g := (mkF m 15 #[.val (.int p1), .val (.int p2), .val (.int p3), .val (.int p4), .val (.ref b1), .unset, .unset, .unset, .unset] [(.ref b1)])) rfl (by rw [hml]; rfl) (Steps.refl _) (argsL := []) (rest := []) (lenOf pd_2 rfl) rfl (by show 2 * 0 + _ ≤ _; exact Nat.le_of_eq rfl) (hb hby at_15) (fun _ _ => ⟨rfl, rfl, (by decide : 1 + 0 ≤ _), (by decide : 4 + 0 ≤ _)⟩)
  dsimp only [Pt.U, Pt.locs, Pt.cells, Pt.slots] at X3 l3 y3 z3 st3 hQ3
  subst l3 y3 z3
  obtain ⟨rfl, N3q, hh3⟩ := hQ3
  have N3 := Fr.app N2 N3q
  refine OwnEnds.go st3 ?_
  show OwnEnds _ _ _ _ _ _ _ (T3.setTop (mkF m 18 #[.val (.int p1), .val (.int p2), .val (.int p3), .val (.int p4), .val (.ref b1), .unset, .unset, .unset, .unset] [(.double (FP.dadd (FP.i2d p1) (FP.ddiv (FP.i2d p3) 4611686018427387904)))]))
  refine OwnEnds.st (fun t k => XS.dstore X3.here hx rfl (hb hby at_18) rfl (l' := #[.val (.int p1), .val (.int p2), .val (.int p3), .val (.int p4), .val (.ref b1), .val (.double (FP.dadd (FP.i2d p1) (FP.ddiv (FP.i2d p3) 4611686018427387904))), .second, .unset, .unset]) rfl k) ?_
  show OwnEnds _ _ _ _ _ _ _ (T3.setTop (mkF m 20 #[.val (.int p1), .val (.int p2), .val (.int p3), .val (.int p4), .val (.ref b1), .val (.double (FP.dadd (FP.i2d p1) (FP.ddiv (FP.i2d p3) 4611686018427387904))), .second, .unset, .unset] []))
  refine OwnEnds.st (fun t k => X3.ldc2Long hx hown (mvT hZ (hw _ (List.mem_of_getElem? (i := 28) rfl))) (g := (mkF m 20 #[.val (.int p1), .val (.int p2), .val (.int p3), .val (.int p4), .val (.ref b1), .val (.double (FP.dadd (FP.i2d p1) (FP.ddiv (FP.i2d p3) 4611686018427387904))), .second, .unset, .unset] [])) rfl (hb hby at_20) t k) ?_
  show OwnEnds _ _ _ _ _ _ _ (T3.setTop (mkF m 23 #[.val (.int p1), .val (.int p2), .val (.int p3), .val (.int p4), .val (.ref b1), .val (.double (FP.dadd (FP.i2d p1) (FP.ddiv (FP.i2d p3) 4611686018427387904))), .second, .unset, .unset] [(.long (2 : Int64))]))
  refine OwnEnds.st (fun t k => XS.iloadN X3.here hx rfl (hb hby at_23) rfl k) ?_
  show OwnEnds _ _ _ _ _ _ _ (T3.setTop (mkF m 24 #[.val (.int p1), .val (.int p2), .val (.int p3), .val (.int p4), .val (.ref b1), .val (.double (FP.dadd (FP.i2d p1) (FP.ddiv (FP.i2d p3) 4611686018427387904))), .second, .unset, .unset] [(.int p1), (.long (2 : Int64))]))
  refine OwnEnds.st (fun t k => XS.i2l X3.here hx rfl (hb hby at_24) rfl k) ?_
  show OwnEnds _ _ _ _ _ _ _ (T3.setTop (mkF m 25 #[.val (.int p1), .val (.int p2), .val (.int p3), .val (.int p4), .val (.ref b1), .val (.double (FP.dadd (FP.i2d p1) (FP.ddiv (FP.i2d p3) 4611686018427387904))), .second, .unset, .unset] [(.long (p1.toInt64)), (.long (2 : Int64))]))
  refine OwnEnds.st (fun t k => XS.lmul X3.here hx rfl (hb hby at_25) rfl k) ?_
  show OwnEnds _ _ _ _ _ _ _ (T3.setTop (mkF m 26 #[.val (.int p1), .val (.int p2), .val (.int p3), .val (.int p4), .val (.ref b1), .val (.double (FP.dadd (FP.i2d p1) (FP.ddiv (FP.i2d p3) 4611686018427387904))), .second, .unset, .unset] [(.long ((2 : Int64) * (p1.toInt64)))]))
  refine OwnEnds.st (fun t k => XS.iloadN X3.here hx rfl (hb hby at_26) rfl k) ?_
  show OwnEnds _ _ _ _ _ _ _ (T3.setTop (mkF m 27 #[.val (.int p1), .val (.int p2), .val (.int p3), .val (.int p4), .val (.ref b1), .val (.double (FP.dadd (FP.i2d p1) (FP.ddiv (FP.i2d p3) 4611686018427387904))), .second, .unset, .unset] [(.int p3), (.long ((2 : Int64) * (p1.toInt64)))]))
  refine OwnEnds.st (fun t k => XS.i2l X3.here hx rfl (hb hby at_27) rfl k) ?_
  show OwnEnds _ _ _ _ _ _ _ (T3.setTop (mkF m 28 #[.val (.int p1), .val (.int p2), .val (.int p3), .val (.int p4), .val (.ref b1), .val (.double (FP.dadd (FP.i2d p1) (FP.ddiv (FP.i2d p3) 4611686018427387904))), .second, .unset, .unset] [(.long (p3.toInt64)), (.long ((2 : Int64) * (p1.toInt64)))]))
  refine OwnEnds.st (fun t k => XS.ladd X3.here hx rfl (hb hby at_28) rfl k) ?_
  show OwnEnds _ _ _ _ _ _ _ (T3.setTop (mkF m 29 #[.val (.int p1), .val (.int p2), .val (.int p3), .val (.int p4), .val (.ref b1), .val (.double (FP.dadd (FP.i2d p1) (FP.ddiv (FP.i2d p3) 4611686018427387904))), .second, .unset, .unset] [(.long (((2 : Int64) * (p1.toInt64)) + (p3.toInt64)))]))
  refine OwnEnds.st (fun t k => XS.lstore X3.here hx rfl (hb hby at_29) rfl (l' := #[.val (.int p1), .val (.int p2), .val (.int p3), .val (.int p4), .val (.ref b1), .val (.double (FP.dadd (FP.i2d p1) (FP.ddiv (FP.i2d p3) 4611686018427387904))), .second, .val (.long (((2 : Int64) * (p1.toInt64)) + (p3.toInt64))), .second]) rfl k) ?_
  show OwnEnds _ _ _ _ _ _ _ (T3.setTop (mkF m 31 #[.val (.int p1), .val (.int p2), .val (.int p3), .val (.int p4), .val (.ref b1), .val (.double (FP.dadd (FP.i2d p1) (FP.ddiv (FP.i2d p3) 4611686018427387904))), .second, .val (.long (((2 : Int64) * (p1.toInt64)) + (p3.toInt64))), .second] []))
  refine OwnEnds.st (fun t k => XS.dload X3.here hx rfl (hb hby at_31) rfl k) ?_
  show OwnEnds _ _ _ _ _ _ _ (T3.setTop (mkF m 33 #[.val (.int p1), .val (.int p2), .val (.int p3), .val (.int p4), .val (.ref b1), .val (.double (FP.dadd (FP.i2d p1) (FP.ddiv (FP.i2d p3) 4611686018427387904))), .second, .val (.long (((2 : Int64) * (p1.toInt64)) + (p3.toInt64))), .second] [(.double (FP.dadd (FP.i2d p1) (FP.ddiv (FP.i2d p3) 4611686018427387904)))]))
  refine OwnEnds.st (fun t k => X3.ldc2DoubleC hx hown (mvT hZ (hw _ (List.mem_of_getElem? (i := 29) rfl))) (g := (mkF m 33 #[.val (.int p1), .val (.int p2), .val (.int p3), .val (.int p4), .val (.ref b1), .val (.double (FP.dadd (FP.i2d p1) (FP.ddiv (FP.i2d p3) 4611686018427387904))), .second, .val (.long (((2 : Int64) * (p1.toInt64)) + (p3.toInt64))), .second] [(.double (FP.dadd (FP.i2d p1) (FP.ddiv (FP.i2d p3) 4611686018427387904)))])) rfl (hb hby at_33) t k) ?_
  show OwnEnds _ _ _ _ _ _ _ (T3.setTop (mkF m 36 #[.val (.int p1), .val (.int p2), .val (.int p3), .val (.int p4), .val (.ref b1), .val (.double (FP.dadd (FP.i2d p1) (FP.ddiv (FP.i2d p3) 4611686018427387904))), .second, .val (.long (((2 : Int64) * (p1.toInt64)) + (p3.toInt64))), .second] [(.double (4611686018427387904 : UInt64)), (.double (FP.dadd (FP.i2d p1) (FP.ddiv (FP.i2d p3) 4611686018427387904)))]))
  refine OwnEnds.st (fun t k => XS.dmulS X3.here hx rfl (hb hby at_36) rfl (own_tie p1 p3).2.2.1 rfl k) ?_
  show OwnEnds _ _ _ _ _ _ _ (T3.setTop (mkF m 37 #[.val (.int p1), .val (.int p2), .val (.int p3), .val (.int p4), .val (.ref b1), .val (.double (FP.dadd (FP.i2d p1) (FP.ddiv (FP.i2d p3) 4611686018427387904))), .second, .val (.long (((2 : Int64) * (p1.toInt64)) + (p3.toInt64))), .second] [(.double (FP.dmul (FP.dadd (FP.i2d p1) (FP.ddiv (FP.i2d p3) 4611686018427387904)) (4611686018427387904 : UInt64)))]))
  refine OwnEnds.st (fun t k => XS.lload X3.here hx rfl (hb hby at_37) rfl k) ?_
  show OwnEnds _ _ _ _ _ _ _ (T3.setTop (mkF m 39 #[.val (.int p1), .val (.int p2), .val (.int p3), .val (.int p4), .val (.ref b1), .val (.double (FP.dadd (FP.i2d p1) (FP.ddiv (FP.i2d p3) 4611686018427387904))), .second, .val (.long (((2 : Int64) * (p1.toInt64)) + (p3.toInt64))), .second] [(.long (((2 : Int64) * (p1.toInt64)) + (p3.toInt64))), (.double (FP.dmul (FP.dadd (FP.i2d p1) (FP.ddiv (FP.i2d p3) 4611686018427387904)) (4611686018427387904 : UInt64)))]))
  refine OwnEnds.st (fun t k => XS.l2dS X3.here hx rfl (hb hby at_39) rfl rfl k) ?_
  show OwnEnds _ _ _ _ _ _ _ (T3.setTop (mkF m 40 #[.val (.int p1), .val (.int p2), .val (.int p3), .val (.int p4), .val (.ref b1), .val (.double (FP.dadd (FP.i2d p1) (FP.ddiv (FP.i2d p3) 4611686018427387904))), .second, .val (.long (((2 : Int64) * (p1.toInt64)) + (p3.toInt64))), .second] [(.double (FP.l2d (((2 : Int64) * (p1.toInt64)) + (p3.toInt64)))), (.double (FP.dmul (FP.dadd (FP.i2d p1) (FP.ddiv (FP.i2d p3) 4611686018427387904)) (4611686018427387904 : UInt64)))]))
  refine OwnEnds.st (fun t k => XS.dcmpS X3.here hx rfl (hb hby at_40) rfl (own_tie p1 p3).2.2.2 k) ?_
  show OwnEnds _ _ _ _ _ _ _ (T3.setTop (mkF m 41 #[.val (.int p1), .val (.int p2), .val (.int p3), .val (.int p4), .val (.ref b1), .val (.double (FP.dadd (FP.i2d p1) (FP.ddiv (FP.i2d p3) 4611686018427387904))), .second, .val (.long (((2 : Int64) * (p1.toInt64)) + (p3.toInt64))), .second] [(.int (0 : Int32))]))
  refine OwnEnds.st (fun t k => XS.ifNo X3.here hx rfl (hb hby at_41) rfl ((if0 _ _).trans (teq (rfl : (0 : Int32) = (0 : Int32))).2) k) ?_
  show OwnEnds _ _ _ _ _ _ _ (T3.setTop (mkF m 44 #[.val (.int p1), .val (.int p2), .val (.int p3), .val (.int p4), .val (.ref b1), .val (.double (FP.dadd (FP.i2d p1) (FP.ddiv (FP.i2d p3) 4611686018427387904))), .second, .val (.long (((2 : Int64) * (p1.toInt64)) + (p3.toInt64))), .second] []))
  refine OwnEnds.st (fun t k => XS.iconst X3.here hx rfl (hb hby at_44) k) ?_
  show OwnEnds _ _ _ _ _ _ _ (T3.setTop (mkF m 45 #[.val (.int p1), .val (.int p2), .val (.int p3), .val (.int p4), .val (.ref b1), .val (.double (FP.dadd (FP.i2d p1) (FP.ddiv (FP.i2d p3) 4611686018427387904))), .second, .val (.long (((2 : Int64) * (p1.toInt64)) + (p3.toInt64))), .second] [(.int (1 : Int32))]))
  refine OwnEnds.st (fun t k => XS.goto X3.here hx rfl (pc0 := 45) (pc' := 49) rfl (hb hby at_45) (by decide) (by decide) k) ?_
  show OwnEnds _ _ _ _ _ _ _ (T3.setTop (mkF m 49 #[.val (.int p1), .val (.int p2), .val (.int p3), .val (.int p4), .val (.ref b1), .val (.double (FP.dadd (FP.i2d p1) (FP.ddiv (FP.i2d p3) 4611686018427387904))), .second, .val (.long (((2 : Int64) * (p1.toInt64)) + (p3.toInt64))), .second] [(.int (1 : Int32))]))
  refine own_retN (t := .boolean) X3 hx Bd.returns Bd.notSynchronized (by simp) (hb hby at_49) ?_ (by decide) (by decide)
  show Q0 Z p1 p2 p3 p4 h0 n0 _ T3.heap _
  exact ⟨rfl, N3⟩
set_option maxRecDepth 65536 in
set_option maxHeartbeats 40000000 in
theorem comes_1 {Post : Tables → Env → Array Value → State → Outcome → State → Prop} (hpost : ∀ tb e args s v u, (limb_1_1.after args s (.returned v) u = true ∧ limb_1_2.after args s (.returned v) u = true ∧ True) → FrameEnd s (.returned v) u (Jvm.fieldLocs frame_1_writes args s ++ Jvm.arrayLocs frame_1_arrays args s ++ Jvm.staticLocs frame_1_statics s) 16 128 → Post tb e args s (.returned v) u) :
    ArmFor flags0 classFile x code maxLocals ret World_1 tables_1 room_1 Calls_1 rest_1 Pre_1 Post := by
  intro l hfl _ _ p e ha hc hk s m args below hf hA hF happ hP
  obtain ⟨hcalls, hrest, hpre⟩ := hP
  obtain ⟨-, -, -, hnamed, -, -, -, hat⟩ := (Spec.applies_iff hf).mp happ
  obtain ⟨hg, hn⟩ := and_e (Cond.before_iff.mp (show (Jvm.Cond.and given_1 narrow_1).before args s = true from hpre))
  obtain ⟨hcount, ga0⟩ := and_e hg
  obtain ⟨gb0, ga1⟩ := and_e ga0
  obtain ⟨gb1, ga2⟩ := and_e ga1
  obtain ⟨gb2, ga3⟩ := and_e ga2
  obtain ⟨w0, w1, w2, w3, rfl⟩ : ∃ w0 w1 w2 w3 : Value, args = #[w0, w1, w2, w3] := by
    have hs : args.size = 4 := by simpa [Cond.value, given_1] using hcount
    obtain ⟨L⟩ := args
    match L, hs with
    | [w0, w1, w2, w3], _ => exact ⟨w0, w1, w2, w3, rfl⟩
  have hw := fun d (hd : d ∈ tables_1) => atoms_spec (ws := Jvm.Cond.code x code maxLocals ret :: tables_1) hat d (List.mem_cons_of_mem _ hd)
  have hfit : Fit s := fun {y c} hc i hi => by
    obtain ⟨ha, rfl⟩ := Array.getElem?_eq_some_iff.mp hc
    have q := List.all_eq_true.mp ((Array.all_eq_true_iff_forall_mem.mp hF) _ (Array.getElem_mem ha)) i (List.mem_range.mpr hi)
    simpa [Array.getElem?_eq_getElem hi] using q
  obtain ⟨i0, ei0⟩ := is_v gb0
  obtain rfl : w0 = (.int i0) := Option.some.inj ei0
  obtain ⟨i1, ei1⟩ := is_v gb1
  obtain rfl : w1 = (.int i1) := Option.some.inj ei1
  obtain ⟨i2, ei2⟩ := is_v gb2
  obtain rfl : w2 = (.int i2) := Option.some.inj ei2
  obtain ⟨i3, ei3⟩ := is_v ga3
  obtain rfl : w3 = (.int i3) := Option.some.inj ei3
  obtain ⟨n, o, h1, h2, h3, _, L, rfl, ⟨rfl, N⟩, hq⟩ := rm0 l s _ hw tables_1 i0 i1 i2 i3 s.heap s.heap.size (Nat.le_refl _) p e ha hc hk s m _ below hf ((Spec.applies_iff_loose hf).mp happ).1 ⟨rfl, State.Warmed39.refl s, rfl⟩ trivial
  refine ⟨n, _, h1, h2, h3, hpost _ _ _ _ _ _ ⟨Cond.after_iff.mpr rfl, Cond.after_iff.mpr (eq_i res_at (Term.int_eval (1)) rfl), trivial⟩ ⟨hq.1, hq.2.1, (hq.2.2.sift fun y hy => Or.inr (N y hy)).mono (by decide) (by decide)⟩⟩
theorem main_1_1 : Claimed_1_1 := comes_1 fun _ _ _ _ _ _ h hF => ⟨h.1, hF⟩
theorem main_1_2 : Claimed_1_2 := comes_1 fun _ _ _ _ _ _ h hF => ⟨h.2.1, hF⟩
end Jvm.Pilot.@@N@@
namespace Jvm.Pilot.@@N@@
open Jvm Jvm.ClassFile Sem Op Lib Jvm.Free Jvm.Stand Jvm.Pilot.@@N@@.Jvm.D
/-! MADE BY PROGRAM (witnessworld.py) out of the Statement's table words and the real class files: 10 classes; the members and pool entries that the words name. The judged class is class 1, her method 1. -/
namespace start1
open Jvm.ClassFile
def u (s : String) : CpInfo := .utf8 (stringToUtf16 s)
/-- a pool by its gaps: so many unusable entries, then the entry; so many at the end -/
def gap : Nat → List CpInfo → List CpInfo
  | 0, r => r
  | n + 1, r => .unusable :: gap n r
def poolList (es : List (Nat × CpInfo)) (last : Nat) : List CpInfo := es.foldr (fun e r => gap e.1 (e.2 :: r)) (gap last [])
def pool (es : List (Nat × CpInfo)) (last : Nat) : Array CpInfo := ⟨poolList es last⟩
def fileOf (pool : Array CpInfo) (this : Nat) (attrs : Array Attribute := #[]) (ms : Array MethodInfo := #[]) (fl : Nat := 33) (sup : Nat := 0) (ifs : Array Nat := #[]) (fds : Array FieldInfo := #[]) : ClassFile where
  minorVersion := 0
  majorVersion := 65
  constantPool := pool
  accessFlags := fl
  thisClass := this
  superClass := sup
  interfaces := ifs
  fields := fds
  methods := ms
  attributes := attrs
def plain (name : String) (sup : Option ClassId) : Class where
  name := name
  kind := .ordinary
  loader := none
  accessFlags := 33
  super := sup
  interfaces := #[]
  cf := none
  fields := #[]
  methods := #[]
  instanceTypes := #[]
  staticTypes := #[]
  resolved := #[]
  callSites := []
  init := .initialized
  statics := none
  mirror := none

def pool0 : Array CpInfo := pool [(5, u "<init>"), (0, u "()V"), (1, .class_ 10), (1, u "java/lang/Object")] 113

def k0c0 : Code := { maxStack := 0, maxLocals := 1, code := object_method_1_code, exceptionTable := #[], attributes := #[] }
def k0m0 : Method := { name := "<init>", desc := "()V", sig := { parameters := [], returnType := none }, accessFlags := 1, code := some k0c0 }
/-- java/lang/Object -/
def k0 : Class := { plain "java/lang/Object" none with
  accessFlags := 33
  interfaces := #[]
  cf := some (fileOf pool0 8 #[] #[{ accessFlags := 1, nameIndex := 5, descriptorIndex := 6, attributes := #[] }] 33 0 #[] #[])
  fields := #[]
  methods := #[k0m0]
  instanceTypes := #[]
  staticTypes := #[]
  resolved := Array.replicate 124 none
  statics := none }

def pool1 : Array CpInfo := pool [(2, .class_ 4), (1, u "java/lang/Object"), (0, u "<init>"), (0, u "()V"), (0, .class_ 8), (0, u "com/example/culpa/culpa/FaultPlacement$Tie"), (0, .methodref 7 10), (0, .nameAndType 5 11), (0, u "(IIII)V"), (0, .methodref 7 13), (0, .nameAndType 14 15), (0, u "standardRank"), (0, u "()D"), (0, .long 2), (1, .double 4611686018427387904), (1, .class_ 21), (0, u "com/example/culpa/culpa/TieStandardRankPinLaw"), (2, u "law"), (0, u "(IIII)Z")] 7

def k1m0 : Method := { name := "<init>", desc := "()V", sig := { parameters := [], returnType := none }, accessFlags := 1, code := none }
def k1c1 : Code := { maxStack := 6, maxLocals := 9, code := code, exceptionTable := #[], attributes := #[] }
def k1m1 : Method := { name := "law", desc := "(IIII)Z", sig := { parameters := [.int, .int, .int, .int], returnType := some .boolean }, accessFlags := 9, code := some k1c1 }
/-- com/example/culpa/culpa/TieStandardRankPinLaw -/
def k1 : Class := { plain "com/example/culpa/culpa/TieStandardRankPinLaw" (some 0) with
  accessFlags := 49
  interfaces := #[]
  cf := some (fileOf pool1 20 #[] #[{ accessFlags := 1, nameIndex := 5, descriptorIndex := 6, attributes := #[] }, { accessFlags := 9, nameIndex := 24, descriptorIndex := 25, attributes := #[] }] 49 2 #[] #[])
  fields := #[]
  methods := #[k1m0, k1m1]
  instanceTypes := #[]
  staticTypes := #[]
  resolved := Array.replicate 33 none
  statics := none }

def pool2 : Array CpInfo := pool [(1, .methodref 2 3), (0, .class_ 4), (0, .nameAndType 5 6), (0, u "java/lang/Object"), (0, u "<init>"), (0, u "()V"), (0, .class_ 8), (0, u "java/lang/Record")] 13

def k2c0 : Code := { maxStack := 1, maxLocals := 1, code := jdk_30_method_1_code, exceptionTable := #[], attributes := #[] }
def k2m0 : Method := { name := "<init>", desc := "()V", sig := { parameters := [], returnType := none }, accessFlags := 4, code := some k2c0 }
/-- java/lang/Record -/
def k2 : Class := { plain "java/lang/Record" (some 0) with
  accessFlags := 1057
  interfaces := #[]
  cf := some (fileOf pool2 7 #[] #[{ accessFlags := 4, nameIndex := 5, descriptorIndex := 6, attributes := #[] }] 1057 2 #[] #[])
  fields := #[]
  methods := #[k2m0]
  instanceTypes := #[]
  staticTypes := #[]
  resolved := Array.replicate 22 none
  statics := none }

def pool3 : Array CpInfo := pool [(1, .methodref 2 3), (0, .class_ 4), (0, .nameAndType 5 6), (0, u "java/lang/Record"), (0, u "<init>"), (0, u "()V"), (0, .fieldref 8 9), (0, .class_ 10), (0, .nameAndType 11 12), (0, u "com/example/culpa/culpa/FaultPlacement$Tie"), (0, u "higher"), (0, u "I"), (0, .fieldref 8 14), (0, .nameAndType 15 12), (0, u "higherFaulty"), (0, .fieldref 8 17), (0, .nameAndType 18 12), (0, u "size"), (0, .fieldref 8 20), (0, .nameAndType 21 12), (0, u "faulty"), (0, .double 4611686018427387904), (13, u "(IIII)V"), (3, u "standardRank"), (0, u "()D"), (8, .class_ 51), (0, u "com/example/culpa/culpa/FaultPlacement")] 22

def k3c0 : Code := { maxStack := 2, maxLocals := 5, code := prog_7_method_1_code, exceptionTable := #[], attributes := #[] }
def k3m0 : Method := { name := "<init>", desc := "(IIII)V", sig := { parameters := [.int, .int, .int, .int], returnType := none }, accessFlags := 0, code := some k3c0 }
def k3c1 : Code := { maxStack := 6, maxLocals := 1, code := prog_7_method_2_code, exceptionTable := #[], attributes := #[] }
def k3m1 : Method := { name := "standardRank", desc := "()D", sig := { parameters := [], returnType := some .double }, accessFlags := 0, code := some k3c1 }
/-- com/example/culpa/culpa/FaultPlacement$Tie -/
def k3 : Class := { plain "com/example/culpa/culpa/FaultPlacement$Tie" (some 2) with
  accessFlags := 48
  interfaces := #[]
  cf := some (fileOf pool3 8 #[.nestHost 50] #[{ accessFlags := 0, nameIndex := 5, descriptorIndex := 36, attributes := #[] }, { accessFlags := 0, nameIndex := 40, descriptorIndex := 41, attributes := #[] }] 48 2 #[] #[{ accessFlags := 18, nameIndex := 11, descriptorIndex := 12, attributes := #[] }, { accessFlags := 18, nameIndex := 15, descriptorIndex := 12, attributes := #[] }, { accessFlags := 18, nameIndex := 18, descriptorIndex := 12, attributes := #[] }, { accessFlags := 18, nameIndex := 21, descriptorIndex := 12, attributes := #[] }])
  fields := #[{ name := "higher", type := .int, accessFlags := 18, slot := 0, constantValue := 0 }, { name := "higherFaulty", type := .int, accessFlags := 18, slot := 1, constantValue := 0 }, { name := "size", type := .int, accessFlags := 18, slot := 2, constantValue := 0 }, { name := "faulty", type := .int, accessFlags := 18, slot := 3, constantValue := 0 }]
  methods := #[k3m0, k3m1]
  instanceTypes := #[.int, .int, .int, .int]
  staticTypes := #[]
  resolved := Array.replicate 74 none
  statics := none }

def pool4 : Array CpInfo := pool [(1, u "java/lang/Cloneable"), (0, .class_ 1), (0, u "java/lang/Object"), (0, .class_ 3)] 3

/-- java/lang/Cloneable -/
def k4 : Class := { plain "java/lang/Cloneable" (some 0) with
  accessFlags := 1537
  interfaces := #[]
  cf := some (fileOf pool4 2 #[] #[] 1537 4 #[] #[])
  fields := #[]
  methods := #[]
  instanceTypes := #[]
  staticTypes := #[]
  resolved := Array.replicate 8 none
  statics := none }

def pool5 : Array CpInfo := pool [(1, u "java/io/Serializable"), (0, .class_ 1), (0, u "java/lang/Object"), (0, .class_ 3)] 3

/-- java/io/Serializable -/
def k5 : Class := { plain "java/io/Serializable" (some 0) with
  accessFlags := 1537
  interfaces := #[]
  cf := some (fileOf pool5 2 #[] #[] 1537 4 #[] #[])
  fields := #[]
  methods := #[]
  instanceTypes := #[]
  staticTypes := #[]
  resolved := Array.replicate 8 none
  statics := none }

/-- the primitive byte -/
def k6 : Class := { plain "byte" none with kind := .primitive 'B', accessFlags := 0x411 }
/-- [B -/
def k7 : Class := { plain "[B" (some 0) with kind := .array 6 .byte, interfaces := #[4, 5], accessFlags := 1041 }

/-- the primitive int -/
def k8 : Class := { plain "int" none with kind := .primitive 'I', accessFlags := 0x411 }
/-- [I -/
def k9 : Class := { plain "[I" (some 0) with kind := .array 8 .int, interfaces := #[4, 5], accessFlags := 1041 }

def heap : Heap := #[]
def classes : Array Class := #[k0, k1, k2, k3, k4, k5, k6, k7, k8, k9]
def interned : List (Array UInt16 × Addr) := []
def slotsUsed : Nat := 0
def theMethod : MethodId := ⟨1, 1⟩
def args0 : Array Value := #[.int 5, .int 1, .int 3, .int 2]
def aboutOver (below : List Frame) : State where
  vm := { classes := classes, interned := interned.toArray }
  heap := heap
  slotsUsed := slotsUsed
  threads := #[{ frames := .invoking theMethod args0 :: below }]
def below0 : List Frame := [.native { method := ⟨0, 0⟩, args := #[] }]
def about1 : State := aboutOver below0
def p0 : Program := .bare "" "" ""
def e0 : Env := launch0.env 0 0 0
theorem w_frames : about1.frames = Frame.invoking theMethod args0 :: below0 := rfl
set_option maxRecDepth 65536 in
theorem w_args : argsFit about1.vm theMethod args0 = true := by decide +kernel
set_option maxRecDepth 65536 in
theorem w_heap : heapFits about1 = true := by decide +kernel
set_option maxRecDepth 65536 in
theorem w_runnable : about1.curStatus? = some .runnable := by decide +kernel
set_option maxRecDepth 65536 in
theorem w_alone : about1.alone = true := by decide +kernel
set_option maxRecDepth 65536 in
theorem w_named : about1.methodNamed? x = some theMethod := by decide +kernel
set_option maxRecDepth 65536 in
theorem w_hears : about1.hears theMethod below0 = true := by decide +kernel
set_option maxRecDepth 65536 in
theorem w_ripe : about1.ripe theMethod args0 below0 = true := by decide +kernel
theorem w_running : about1.status = .running := rfl
set_option maxRecDepth 65536 in
theorem w_room : about1.hasRoom e0.platform room_1 = true :=
  launch0.hasRoom_least _ room_1 (by decide +kernel) (by decide +kernel) (by decide +kernel) (by decide +kernel) (by decide +kernel) (by decide +kernel)
theorem allAtoms_all (ts : List Jvm.Cond) (a : Array Jvm.Value) (st : Jvm.State) : (allAtoms ts).before a st = ts.all (fun c => c.before a st) := by
  induction ts with
  | nil => rfl
  | cons c t ih =>
    show (Jvm.Cond.and c (allAtoms t)).before a st = _
    rw [Jvm.Cond.before_and, ih, List.all_cons]
def words1 : List Jvm.Cond := Jvm.Cond.code x code maxLocals ret :: tables_1
/-- a 'code' word, met by the world's own term for the bytes: nothing is compared byte by byte -/
theorem code_word {y : MethodName} {bytes : ByteArray} {mx : Nat} {rt : Option FieldType} {a : Array Value} {s : State} {m : MethodId} {meth : Method} {c : Code} (h1 : s.methodNamed? y = some m) (h2 : s.vm.method? m = some meth) (h3 : meth.code = some c) (h4 : c.code = bytes)
    (h5 : (c.maxLocals == mx && c.exceptionTable.isEmpty && decide (c.maxStack ≤ mostOperands) && decide (meth.sig.returnType = rt) && !meth.locks && decide (parseMethodDescriptor y.desc = some meth.sig)) = true) : (Jvm.Cond.code y bytes mx rt).before a s = true := by
  simp only [Bool.and_eq_true, beq_iff_eq, Bool.not_eq_true', decide_eq_true_eq] at h5
  obtain ⟨⟨⟨⟨⟨g1, g2⟩, g3⟩, g4⟩, g5⟩, g6⟩ := h5
  simp [Cond.before, Cond.holds, Cond.value, h1, h2, h3, h4, g1, g2, g3, g4, g5, g6]
def isCode : Jvm.Cond → Bool
  | .code _ _ _ _ => true
  | _ => false
theorem all_split {L : List Jvm.Cond} {P : Jvm.Cond → Bool} (h1 : L.all (fun c => isCode c || P c) = true) (h2 : ∀ c ∈ L.filter isCode, P c = true) : L.all P = true := by
  refine List.all_eq_true.mpr fun c hc => ?_
  have h := List.all_eq_true.mp h1 c hc
  rcases Bool.eq_false_or_eq_true (isCode c) with hi | hi
  · exact h2 c (List.mem_filter.mpr ⟨hc, hi⟩)
  · simpa [hi] using h
set_option maxRecDepth 65536 in
theorem w_c0 : (Jvm.Cond.code x code maxLocals ret).before args0 about1 = true := code_word (m := ⟨1, 1⟩) (meth := k1m1) (c := k1c1) (by decide +kernel) rfl rfl rfl (by decide +kernel)
set_option maxRecDepth 65536 in
theorem w_c1 : (Jvm.Cond.code ({ cls := "com/example/culpa/culpa/FaultPlacement$Tie", name := "<init>", desc := "(IIII)V" } : Jvm.MethodName) prog_7_method_1_code (5 : Nat) (Option.none : Option Jvm.ClassFile.FieldType)).before args0 about1 = true := code_word (m := ⟨3, 0⟩) (meth := k3m0) (c := k3c0) (by decide +kernel) rfl rfl rfl (by decide +kernel)
set_option maxRecDepth 65536 in
theorem w_c2 : (Jvm.Cond.code ({ cls := "java/lang/Record", name := "<init>", desc := "()V" } : Jvm.MethodName) jdk_30_method_1_code (1 : Nat) (Option.none : Option Jvm.ClassFile.FieldType)).before args0 about1 = true := code_word (m := ⟨2, 0⟩) (meth := k2m0) (c := k2c0) (by decide +kernel) rfl rfl rfl (by decide +kernel)
set_option maxRecDepth 65536 in
theorem w_c3 : (Jvm.Cond.code ({ cls := "java/lang/Object", name := "<init>", desc := "()V" } : Jvm.MethodName) object_method_1_code (1 : Nat) (Option.none : Option Jvm.ClassFile.FieldType)).before args0 about1 = true := code_word (m := ⟨0, 0⟩) (meth := k0m0) (c := k0c0) (by decide +kernel) rfl rfl rfl (by decide +kernel)
set_option maxRecDepth 65536 in
theorem w_c4 : (Jvm.Cond.code ({ cls := "com/example/culpa/culpa/FaultPlacement$Tie", name := "standardRank", desc := "()D" } : Jvm.MethodName) prog_7_method_2_code (1 : Nat) (Option.some Jvm.ClassFile.FieldType.double)).before args0 about1 = true := code_word (m := ⟨3, 1⟩) (meth := k3m1) (c := k3c1) (by decide +kernel) rfl rfl rfl (by decide +kernel)
def codes1 : List Jvm.Cond := [Jvm.Cond.code x code maxLocals ret, Jvm.Cond.code ({ cls := "com/example/culpa/culpa/FaultPlacement$Tie", name := "<init>", desc := "(IIII)V" } : Jvm.MethodName) prog_7_method_1_code (5 : Nat) (Option.none : Option Jvm.ClassFile.FieldType), Jvm.Cond.code ({ cls := "java/lang/Record", name := "<init>", desc := "()V" } : Jvm.MethodName) jdk_30_method_1_code (1 : Nat) (Option.none : Option Jvm.ClassFile.FieldType), Jvm.Cond.code ({ cls := "java/lang/Object", name := "<init>", desc := "()V" } : Jvm.MethodName) object_method_1_code (1 : Nat) (Option.none : Option Jvm.ClassFile.FieldType), Jvm.Cond.code ({ cls := "com/example/culpa/culpa/FaultPlacement$Tie", name := "standardRank", desc := "()D" } : Jvm.MethodName) prog_7_method_2_code (1 : Nat) (Option.some Jvm.ClassFile.FieldType.double)]
set_option maxRecDepth 65536 in
theorem codes_eq : words1.filter isCode = codes1 := rfl
theorem w_codes : ∀ c ∈ words1.filter isCode, c.before args0 about1 = true := by
  rw [codes_eq]
  intro c hc
  simp only [codes1, List.mem_cons, List.not_mem_nil, or_false] at hc
  rcases hc with rfl | rfl | rfl | rfl | rfl
  · exact w_c0
  · exact w_c1
  · exact w_c2
  · exact w_c3
  · exact w_c4
set_option maxRecDepth 65536 in
theorem w_t1 : (words1.take 24).all (fun c => isCode c || c.before args0 about1) = true := by decide +kernel
set_option maxRecDepth 65536 in
theorem w_t2 : (words1.drop 24).all (fun c => isCode c || c.before args0 about1) = true := by decide +kernel
theorem w_tables : (allAtoms (Jvm.Cond.code x code maxLocals ret :: tables_1)).before args0 about1 = true := by
  rw [allAtoms_all]
  show words1.all (fun c => c.before args0 about1) = true
  refine all_split ?_ w_codes
  rw [← List.take_append_drop 24 words1, List.all_append, w_t1, w_t2]
  rfl
set_option maxRecDepth 65536 in
theorem w_case : (Jvm.Cond.and given_1 narrow_1).before args0 about1 = true := by decide +kernel
theorem w_applies : (headSpec (Jvm.Cond.code x code maxLocals ret :: tables_1) room_1).applies x e0.platform about1 = true :=
  (Spec.applies_iff w_frames).mpr ⟨w_running, w_runnable, w_alone, w_named, w_hears, w_ripe, w_room, w_tables⟩
theorem atStart : AtStart classFile x code maxLocals ret World_1 tables_1 room_1 Calls_1 rest_1 Pre_1 launch0 p0 e0 about1 theMethod args0 below0 :=
  ⟨lists_1, trivial, launch0.admits_env _ _ _, launch0.least_env, fairChoices_fair.cas, fairChoices_fair.clock, w_frames, w_args, w_heap, w_applies, trivial, trivial, w_case⟩
end start1
theorem witness_1 : WitnessClaimed_1 := ⟨start1.p0, start1.e0, start1.about1, start1.theMethod, start1.args0, start1.below0, start1.atStart⟩
end Jvm.Pilot.@@N@@
