import JvmDerived
import JvmDerived.Pilot.@@N@@Statement
import JvmDerived.Pilot.@@N@@Code
set_option linter.unusedVariables false
set_option linter.unusedSimpArgs false
namespace Jvm.RoadKit
open Sem ClassFile Op Lib Jvm.Stand Jvm.Free Jvm.LawKit
section OwnNew
variable {p : Program} {l : Launch} {e : Env} {R : Room} {s : State} {m : MethodId} {args : Array Value} {below : List Frame} {meth : Method} {c : Code} {T : State} {locs : List Loc} {cells slots : Nat}
/-- from S0 the run comes to the method's return, with what Q says there -/
def OwnEnds (p : Program) (e : Env) (below : List Frame) (s : State) (Q : Option Value → Heap → List Loc → Prop) (ck sk : Nat) (S0 : State) : Prop :=
  ∃ s₂ o, Steps p.tables e below S0 s₂ ∧ s₂.status = .running ∧ Ended s₂ below o ∧ ∃ v L, o = .returned v ∧ Q v s₂.heap L ∧ FrameEnd s o s₂ L ck sk
theorem OwnEnds.st {Q : Option Value → Heap → List Loc → Prop} {ck sk : Nat} {S0 S1 : State} (h : ∀ t, Steps p.tables e below S1 t → Steps p.tables e below S0 t) (k : OwnEnds p e below s Q ck sk S1) : OwnEnds p e below s Q ck sk S0 := by
  obtain ⟨s₂, o, h1, h2⟩ := k
  exact ⟨s₂, o, h _ h1, h2⟩
theorem OwnEnds.go {Q : Option Value → Heap → List Loc → Prop} {ck sk : Nat} {S0 S1 : State} (h : Steps p.tables e below S0 S1) (k : OwnEnds p e below s Q ck sk S1) : OwnEnds p e below s Q ck sk S0 := by
  obtain ⟨s₂, o, h1, h2⟩ := k
  exact ⟨s₂, o, h.trans h1, h2⟩
theorem own_out (X : Stand p l e R s m args below meth c T locs cells slots) (hx : p.tables.exec = Jvm.exec) {pc : Nat} {Ls : Array Slot} {w : Value} {t : FieldType} {i : Instr} {rest : List Value} (hret : meth.sig.returnType = some t) (hlocks : meth.locks = false) (hn : narrow t w = w)
    (hi : (i = .ireturn ∧ (t = .int ∨ t = .boolean ∨ t = .byte ∨ t = .char ∨ t = .short) ∧ ∃ z, w = .int z) ∨ (i = .lreturn ∧ t = .long ∧ ∃ z, w = .long z) ∨ (i = .dreturn ∧ t = .double ∧ ∃ z, w = .double z) ∨ (i = .freturn ∧ t = .float ∧ ∃ z, w = .float z) ∨ (i = .areturn ∧ t.isReference = true ∧ w.isRef = true))
    (hd : decode c.code pc = .ok (i, 1)) {Q : Option Value → Heap → List Loc → Prop} {ck sk : Nat} (hQ : Q (some w) T.heap locs) (hc : cells ≤ ck) (hs : slots ≤ sk) : OwnEnds p e below s Q ck sk (T.setTop (mkF m pc Ls (w :: rest))) := by
  obtain ⟨fs, hr, hrun, hended, hW, hsame⟩ := X.leave (v := some w) (fun h => by rw [hret] at h; cases h) hlocks
  exact ⟨_, _, retOut X hx hret hn hi hd hr, hrun, hended, _, _, rfl, hQ, ⟨_, rfl⟩, hW, hsame.mono hc hs⟩
theorem own_retI (X : Stand p l e R s m args below meth c T locs cells slots) (hx : p.tables.exec = Jvm.exec) {pc : Nat} {Ls : Array Slot} {z : Int32} {rest : List Value} (hret : meth.sig.returnType = some .int) (hlocks : meth.locks = false) (hd : decode c.code pc = .ok (.ireturn, 1))
    {Q : Option Value → Heap → List Loc → Prop} {ck sk : Nat} (hQ : Q (some (.int z)) T.heap locs) (hc : cells ≤ ck) (hs : slots ≤ sk) : OwnEnds p e below s Q ck sk (T.setTop (mkF m pc Ls (.int z :: rest))) :=
  own_out X hx hret hlocks rfl (Or.inl ⟨rfl, Or.inl rfl, _, rfl⟩) hd hQ hc hs
theorem own_retJ (X : Stand p l e R s m args below meth c T locs cells slots) (hx : p.tables.exec = Jvm.exec) {pc : Nat} {Ls : Array Slot} {z : Int64} {rest : List Value} (hret : meth.sig.returnType = some .long) (hlocks : meth.locks = false) (hd : decode c.code pc = .ok (.lreturn, 1))
    {Q : Option Value → Heap → List Loc → Prop} {ck sk : Nat} (hQ : Q (some (.long z)) T.heap locs) (hc : cells ≤ ck) (hs : slots ≤ sk) : OwnEnds p e below s Q ck sk (T.setTop (mkF m pc Ls (.long z :: rest))) :=
  own_out X hx hret hlocks rfl (Or.inr (Or.inl ⟨rfl, rfl, _, rfl⟩)) hd hQ hc hs
theorem own_retD (X : Stand p l e R s m args below meth c T locs cells slots) (hx : p.tables.exec = Jvm.exec) {pc : Nat} {Ls : Array Slot} {z : UInt64} {rest : List Value} (hret : meth.sig.returnType = some .double) (hlocks : meth.locks = false) (hd : decode c.code pc = .ok (.dreturn, 1))
    {Q : Option Value → Heap → List Loc → Prop} {ck sk : Nat} (hQ : Q (some (.double z)) T.heap locs) (hc : cells ≤ ck) (hs : slots ≤ sk) : OwnEnds p e below s Q ck sk (T.setTop (mkF m pc Ls (.double z :: rest))) :=
  own_out X hx hret hlocks rfl (Or.inr (Or.inr (Or.inl ⟨rfl, rfl, _, rfl⟩))) hd hQ hc hs
theorem own_retA (X : Stand p l e R s m args below meth c T locs cells slots) (hx : p.tables.exec = Jvm.exec) {pc : Nat} {Ls : Array Slot} {w : Value} {t : FieldType} {rest : List Value} (hret : meth.sig.returnType = some t) (hlocks : meth.locks = false) (ht : t.isReference = true) (hw : w.isRef = true) (hd : decode c.code pc = .ok (.areturn, 1))
    {Q : Option Value → Heap → List Loc → Prop} {ck sk : Nat} (hQ : Q (some w) T.heap locs) (hc : cells ≤ ck) (hs : slots ≤ sk) : OwnEnds p e below s Q ck sk (T.setTop (mkF m pc Ls (w :: rest))) :=
  own_out X hx hret hlocks (by cases t <;> first | rfl | cases ht) (Or.inr (Or.inr (Or.inr (Or.inr ⟨rfl, ht, hw⟩)))) hd hQ hc hs
theorem own_retN (X : Stand p l e R s m args below meth c T locs cells slots) (hx : p.tables.exec = Jvm.exec) {pc : Nat} {Ls : Array Slot} {z : Int32} {t : FieldType} {rest : List Value} (hret : meth.sig.returnType = some t) (hlocks : meth.locks = false) (ht : t = .boolean ∨ t = .byte ∨ t = .char ∨ t = .short) (hd : decode c.code pc = .ok (.ireturn, 1))
    {Q : Option Value → Heap → List Loc → Prop} {ck sk : Nat} (hQ : Q (some (.int (nar t z))) T.heap locs) (hc : cells ≤ ck) (hs : slots ≤ sk) : OwnEnds p e below s Q ck sk (T.setTop (mkF m pc Ls (.int z :: rest))) := by
  obtain ⟨fs, hr, hrun, hended, hW, hsame⟩ := X.leave (v := some (.int (nar t z))) (fun h => by rw [hret] at h; cases h) hlocks
  exact ⟨_, _, retN X hx hret ht hd hr, hrun, hended, _, _, rfl, hQ, ⟨_, rfl⟩, hW, hsame.mono hc hs⟩
theorem own_retV (X : Stand p l e R s m args below meth c T locs cells slots) (hx : p.tables.exec = Jvm.exec) {pc : Nat} {Ls : Array Slot} (hret : meth.sig.returnType = none) (hlocks : meth.locks = false) (hd : decode c.code pc = .ok (.return_, 1))
    {Q : Option Value → Heap → List Loc → Prop} {ck sk : Nat} (hQ : Q none T.heap locs) (hc : cells ≤ ck) (hs : slots ≤ sk) : OwnEnds p e below s Q ck sk (T.setTop (mkF m pc Ls [])) := by
  obtain ⟨fs, hr, hrun, hended, hW, hsame⟩ := X.leave (v := none) (fun _ => rfl) hlocks
  exact ⟨_, _, X.returnOut hx hret hd hr, hrun, hended, _, _, rfl, hQ, ⟨_, rfl⟩, hW, hsame.mono hc hs⟩
end OwnNew
end Jvm.RoadKit
namespace Jvm.FP.Core.OwnFl
open Jvm.FP.Core
/-- the value in units of 2^-1074 -/
def zv (x : UInt64) : Int := zval b64 (val64 x)
theorem nn {x : UInt64} (h : DFin x) : Jvm.Free.Fl.NoNaN64 x := Jvm.Free.Fl.noNaN64_no.mpr h.notNaN
theorem one_pos : (0 : Int) < (one64 : Int) := by have := one64_pos; omega
theorem zmag_nat (d : Datum) : zmag b64 d = (zval b64 d).natAbs := (natAbs_signed _ _).symm
theorem fin_of {r : UInt64} (hn : val64 r ≠ .nan) (hz : zmag b64 (val64 r) < b64.tails * 2 ^ (b64.exps - 2)) : DFin r := by
  cases h : val64 r with
  | nan => exact absurd h hn
  | inf s => rw [h] at hz; exact absurd hz (Nat.lt_irrefl _)
  | fin s c q => exact ⟨s, c, q, h⟩
theorem rep_q {k : Nat} (hk : k ≤ 2045) : b64.qmin + (k : Int) ≤ b64.qmax := by
  have h3 := qmax_qmin b64
  have h4 : b64.emax = 1023 := by decide
  omega
/-- n * 2^k units is a double, for n of at most 53 digits -/
theorem rep (n : Int) (k : Nat) (hn : n.natAbs < 2 ^ 53) (hk : k ≤ 2045) : ∃ V, fits b64 V ∧ (∃ s c q, V = .fin s c q) ∧ zval b64 V = n * ((2 ^ k : Nat) : Int) := by
  obtain ⟨c', q', h1, h2⟩ := round_exact good_b64 (decide (n < 0)) (c := n.natAbs) (q := b64.qmin + k) hn (by omega) (rep_q hk)
  refine ⟨.fin (decide (n < 0)) c' q', ?_, ⟨_, _, _, rfl⟩, ?_⟩
  · rw [← h1]; exact round_fits good_b64 _
  · show signed (decide (n < 0)) (inUnits c' q' b64.qmin) = _
    rw [h2]
    unfold inUnits
    rw [signed_mul, show (b64.qmin + (k : Int) - b64.qmin).toNat = k by omega]
    congr 1
    unfold signed
    by_cases h5 : n < 0
    · rw [if_pos (decide_eq_true h5)]; omega
    · rw [if_neg (by simp [h5])]; omega
theorem fin_ne {V : Datum} (h : ∃ s c q, V = .fin s c q) : V ≠ .nan := by obtain ⟨s, c, q, rfl⟩ := h; exact Datum.noConfusion
theorem fin_to {r : UInt64} {V : Datum} (hn : dIsNaN r = false) (fV : fits b64 V) (hV : ∃ s c q, V = .fin s c q) (h : zv r = zval b64 V) : DFin r := by
  refine fin_of ((notNaN_iff r).mp hn) ?_
  rw [zmag_nat, show zval b64 (val64 r) = zval b64 V from h, ← zmag_nat]
  obtain ⟨s, c, q, rfl⟩ := hV
  exact zmag_lt_top good_b64 fV
theorem dadd_z {a b : UInt64} (ha : DFin a) (hb : DFin b) {V : Datum} (fV : fits b64 V) (hV : ∃ s c q, V = .fin s c q) (h : zv a + zv b = zval b64 V) : DFin (dadd a b) ∧ zv (dadd a b) = zv a + zv b := by
  have h1 := sum_le good_b64 ha hb (val64_fits a) (val64_fits b) fV (fin_ne hV) (Int.le_of_eq h)
  have h2 := sum_ge good_b64 ha hb (val64_fits a) (val64_fits b) fV (fin_ne hV) (Int.le_of_eq h.symm)
  rw [← val64_dadd] at h1 h2
  have h3 : zv (dadd a b) = zval b64 V := Int.le_antisymm h1 h2
  exact ⟨fin_to (dadd_out' ha hb.notNaN) fV hV h3, h3.trans h.symm⟩
theorem signed_prod (s t : Bool) (x y : Nat) : signed (s != t) (x * y) = signed s x * signed t y := by
  cases s <;> cases t <;> simp [signed, Int.natCast_mul, Int.neg_mul, Int.mul_neg]
theorem prod_z {a b : UInt64} (ha : DFin a) (hb : DFin b) : ∃ s n e, exactProduct (val64 a) (val64 b) = .fin s n e ∧ 2 * b64.qmin ≤ e ∧ signed s (inUnits n e (2 * b64.qmin)) = zv a * zv b := by
  obtain ⟨s, c, q, h1⟩ := ha
  obtain ⟨t, d, r, h2⟩ := hb
  have f1 := val64_fits a
  have f2 := val64_fits b
  rw [h1] at f1
  rw [h2] at f2
  obtain ⟨p1, p2, p3⟩ := product_units f1 f2
  refine ⟨_, _, _, by rw [h1, h2]; exact p1, p2, ?_⟩
  rw [p3]
  unfold zv zval
  rw [h1, h2]
  exact signed_prod s t _ _
theorem two_q : ((2 ^ (b64.qmin - 2 * b64.qmin).toNat : Nat) : Int) = (one64 : Int) := by
  rw [show b64.qmin - 2 * b64.qmin = -b64.qmin by omega, pow_qmin64]
theorem dmul_le {a b : UInt64} (ha : DFin a) (hb : DFin b) {V : Datum} (fV : fits b64 V) (hV : V ≠ .nan) (h : zv a * zv b ≤ zval b64 V * (one64 : Int)) : zv (dmul a b) ≤ zval b64 V := by
  obtain ⟨s, n, e, h1, h2, h3⟩ := prod_z ha hb
  unfold zv
  rw [val64_dmul, h1]
  refine zval_round_le good_b64 fV hV (e0 := 2 * b64.qmin) (by rw [qmin_b64]; decide) h2 ?_
  rw [h3, two_q]; exact h
theorem dmul_ge {a b : UInt64} (ha : DFin a) (hb : DFin b) {V : Datum} (fV : fits b64 V) (hV : V ≠ .nan) (h : zval b64 V * (one64 : Int) ≤ zv a * zv b) : zval b64 V ≤ zv (dmul a b) := by
  obtain ⟨s, n, e, h1, h2, h3⟩ := prod_z ha hb
  unfold zv
  rw [val64_dmul, h1]
  refine zval_round_ge good_b64 fV hV (e0 := 2 * b64.qmin) (by rw [qmin_b64]; decide) h2 ?_
  rw [h3, two_q]; exact h
theorem dmul_z {a b : UInt64} (ha : DFin a) (hb : DFin b) {V : Datum} (fV : fits b64 V) (hV : ∃ s c q, V = .fin s c q) (h : zv a * zv b = zval b64 V * (one64 : Int)) : DFin (dmul a b) ∧ zv (dmul a b) = zval b64 V := by
  have h3 : zv (dmul a b) = zval b64 V := Int.le_antisymm (dmul_le ha hb fV (fin_ne hV) (Int.le_of_eq h)) (dmul_ge ha hb fV (fin_ne hV) (Int.le_of_eq h.symm))
  exact ⟨fin_to (dmul_out ha hb) fV hV h3, h3⟩
theorem scale {x y α β γ δ : Nat} (h : α + δ = β + γ) : x * 2 ^ α ≤ y * 2 ^ β ↔ x * 2 ^ γ ≤ y * 2 ^ δ := by
  have p1 := Nat.two_pow_pos δ
  have p2 := Nat.two_pow_pos β
  have e1 : x * 2 ^ α * 2 ^ δ = x * 2 ^ γ * 2 ^ β := by rw [Nat.mul_assoc, Nat.mul_assoc, ← Nat.pow_add, ← Nat.pow_add, h, Nat.add_comm]
  have e2 : y * 2 ^ β * 2 ^ δ = y * 2 ^ δ * 2 ^ β := Nat.mul_right_comm ..
  constructor
  · intro k; exact Nat.le_of_mul_le_mul_right (by rw [← e1, ← e2]; exact Nat.mul_le_mul_right _ k) p2
  · intro k; exact Nat.le_of_mul_le_mul_right (by rw [e1, e2]; exact Nat.mul_le_mul_right _ k) p1
theorem scale' {x y α β γ δ : Nat} (h : α + δ = β + γ) : y * 2 ^ β ≤ x * 2 ^ α ↔ y * 2 ^ δ ≤ x * 2 ^ γ := scale (by omega)
theorem quot_z {a b : UInt64} (ha : DFin a) (hb : DFin b) (hz : zv b ≠ 0) : ∃ A B e, val64 (ddiv a b) = roundRatio b64 (sgn (val64 a) != sgn (val64 b)) A B e ∧ 0 < B ∧
    ∀ e0, e0 ≤ b64.qmin → e0 ≤ e → ∀ v, (inUnits A e e0 ≤ v * 2 ^ (b64.qmin - e0).toNat * B ↔ (zv a).natAbs * one64 ≤ v * (zv b).natAbs) ∧ (v * 2 ^ (b64.qmin - e0).toNat * B ≤ inUnits A e e0 ↔ v * (zv b).natAbs ≤ (zv a).natAbs * one64) := by
  obtain ⟨s, c, q, h1⟩ := ha
  obtain ⟨t, d, r, h2⟩ := hb
  have f1 := val64_fits a
  have f2 := val64_fits b
  rw [h1] at f1
  rw [h2] at f2
  have z1 : (zv a).natAbs = c * 2 ^ (q - b64.qmin).toNat := by unfold zv zval; rw [natAbs_signed, h1]; rfl
  have z2 : (zv b).natAbs = d * 2 ^ (r - b64.qmin).toNat := by unfold zv zval; rw [natAbs_signed, h2]; rfl
  have hd : d ≠ 0 := by
    intro hd
    rw [hd, Nat.zero_mul] at z2
    omega
  refine ⟨c, d, q - r, ?_, by omega, fun e0 k1 k2 v => ?_⟩
  · rw [val64_ddiv, h1, h2]
    show (if d = 0 then _ else roundRatio b64 (s != t) c d (q - r)) = _
    rw [if_neg hd]; rfl
  · have g1 := f1.2.1
    have g2 := f2.2.1
    have eA : (zv a).natAbs * one64 = c * 2 ^ ((q - b64.qmin).toNat + (-b64.qmin).toNat) := by rw [z1, ← pow_qmin64, Nat.mul_assoc, ← Nat.pow_add]
    have eB : v * (zv b).natAbs = v * d * 2 ^ (r - b64.qmin).toNat := by rw [z2, Nat.mul_assoc]
    have eC : v * 2 ^ (b64.qmin - e0).toNat * d = v * d * 2 ^ (b64.qmin - e0).toNat := Nat.mul_right_comm ..
    have hs : (q - r - e0).toNat + (r - b64.qmin).toNat = (b64.qmin - e0).toNat + ((q - b64.qmin).toNat + (-b64.qmin).toNat) := by
      have := qmin_b64
      omega
    rw [eA, eB, eC]
    exact ⟨scale hs, scale' hs⟩
theorem ddiv_sgn {a b : UInt64} (ha : DFin a) (hb : DFin b) (hz : zv b ≠ 0) : sgn (val64 (ddiv a b)) = (sgn (val64 a) != sgn (val64 b)) := by
  obtain ⟨A, B, e, h1, h2, h3⟩ := quot_z ha hb hz
  rw [h1, sgn_roundRatio]
theorem ddiv_le {a b : UInt64} (ha : DFin a) (hb : DFin b) (hz : zv b ≠ 0) {V : Datum} (fV : fits b64 V) (hV : V ≠ .nan) (h : (zv a).natAbs * one64 ≤ zmag b64 V * (zv b).natAbs) : zmag b64 (val64 (ddiv a b)) ≤ zmag b64 V := by
  obtain ⟨A, B, e, h1, h2, h3⟩ := quot_z ha hb hz
  rw [h1]
  exact zmag_roundRatio_le good_b64 h2 fV hV (Int.min_le_left _ _) (Int.min_le_right _ _) ((h3 (min b64.qmin e) (Int.min_le_left _ _) (Int.min_le_right _ _) _).1.mpr h)
theorem ddiv_ge {a b : UInt64} (ha : DFin a) (hb : DFin b) (hz : zv b ≠ 0) {V : Datum} (fV : fits b64 V) (h : zmag b64 V * (zv b).natAbs ≤ (zv a).natAbs * one64) : zmag b64 V ≤ zmag b64 (val64 (ddiv a b)) := by
  obtain ⟨A, B, e, h1, h2, h3⟩ := quot_z ha hb hz
  rw [h1]
  exact zmag_roundRatio_ge good_b64 h2 fV (Int.min_le_left _ _) (Int.min_le_right _ _) ((h3 (min b64.qmin e) (Int.min_le_left _ _) (Int.min_le_right _ _) _).2.mpr h)
theorem nz_of {b : UInt64} (hb : DFin b) (hz : zv b ≠ 0) : ¬ DZero b := by
  rintro ⟨s, q, h⟩
  apply hz
  unfold zv zval
  rw [h]
  show signed s (inUnits 0 q b64.qmin) = 0
  unfold inUnits
  rw [Nat.zero_mul, signed_zero]
theorem sign_help {sV sa sb : Bool} {m ma mb k : Nat} (hm : 0 < m) (hb : 0 < mb) (h : signed sV m * signed sb mb = signed sa ma * (k : Int)) : sV = (sa != sb) := by
  have h1 : 0 < (m : Int) * (mb : Int) := Int.mul_pos (by omega) (by omega)
  have h2 : 0 ≤ (ma : Int) * (k : Int) := Int.mul_nonneg (by omega) (by omega)
  cases sV <;> cases sa <;> cases sb <;> simp only [signed, if_true, Bool.false_eq_true, if_false, Int.neg_mul, Int.mul_neg, Int.neg_neg] at h <;> first | rfl | (exfalso; omega)
theorem ddiv_z {a b : UInt64} (ha : DFin a) (hb : DFin b) (hz : zv b ≠ 0) {V : Datum} (fV : fits b64 V) (hV : ∃ s c q, V = .fin s c q) (h : zval b64 V * zv b = zv a * (one64 : Int)) : DFin (ddiv a b) ∧ zv (ddiv a b) = zval b64 V := by
  have hn : zmag b64 V * (zv b).natAbs = (zv a).natAbs * one64 := by
    have := congrArg Int.natAbs h
    rw [Int.natAbs_mul, Int.natAbs_mul, Int.natAbs_natCast] at this
    rw [zmag_nat]; exact this
  have hm : zmag b64 (val64 (ddiv a b)) = zmag b64 V := Nat.le_antisymm (ddiv_le ha hb hz fV (fin_ne hV) (Nat.le_of_eq hn.symm)) (ddiv_ge ha hb hz fV (Nat.le_of_eq hn))
  have hq : zv (ddiv a b) = zval b64 V := by
    have e1 : zv (ddiv a b) = signed (sgn (val64 (ddiv a b))) (zmag b64 (val64 (ddiv a b))) := rfl
    rw [e1, hm, ddiv_sgn ha hb hz]
    by_cases h0 : zmag b64 V = 0
    · unfold zval; rw [h0, signed_zero, signed_zero]
    · have hb0 : 0 < zmag b64 (val64 b) := by rw [zmag_nat]; have : zv b ≠ 0 := hz; unfold zv at this; omega
      have := sign_help (sV := sgn V) (sa := sgn (val64 a)) (sb := sgn (val64 b)) (m := zmag b64 V) (ma := zmag b64 (val64 a)) (mb := zmag b64 (val64 b)) (k := one64) (by omega) hb0 h
      rw [← this]; rfl
  exact ⟨fin_to (ddiv_out ha.notNaN hb (nz_of hb hz)) fV hV hq, hq⟩
theorem i2d_z (x : Int32) : zv (i2d x) = x.toInt * (one64 : Int) := DInt_zval (i2d_int x)
theorem l2d_z {x : Int64} (h : x.toInt.natAbs ≤ 2 ^ 53) : zv (l2d x) = x.toInt * (one64 : Int) := DInt_zval (l2d_int h)
theorem cmp_z {a b : UInt64} (ha : DFin a) (hb : DFin b) : dcmp a b = some (compare (zv a) (zv b)) := dcmp_zval ha.ne_nan hb.ne_nan
theorem cmp_eq {a b : UInt64} (ha : DFin a) (hb : DFin b) (h : zv a = zv b) : dcmp a b = some .eq := by rw [cmp_z ha hb, (compare_eq_iff _ _).mpr h]
theorem cmp_lt {a b : UInt64} (ha : DFin a) (hb : DFin b) (h : zv a < zv b) : dcmp a b = some .lt := by rw [cmp_z ha hb, (compare_lt_iff _ _).mpr h]
theorem cmp_gt {a b : UInt64} (ha : DFin a) (hb : DFin b) (h : zv b < zv a) : dcmp a b = some .gt := by rw [cmp_z ha hb, (compare_gt_iff _ _).mpr h]
theorem i32b (x : Int32) : -2147483648 ≤ x.toInt ∧ x.toInt ≤ 2147483647 := by have h1 := Int32.toInt_lt x; have h2 := Int32.le_toInt x; omega
/-- half of the unit's weight -/
def half64 : Nat := 2 ^ 1073
theorem one_half : (one64 : Int) = 2 * (half64 : Int) := by
  have h : one64 = 2 * half64 := by unfold one64 half64; rw [show 1074 = 1073 + 1 from rfl, Nat.pow_succ, Nat.mul_comm]
  rw [h, Int.natCast_mul]; rfl
end Jvm.FP.Core.OwnFl
namespace Jvm.FP.Core.OwnFl
open Jvm.FP.Core
theorem near_scale {P Q R P' Q' R' S S' : Nat} (hS' : 0 < S') (hp : P * S = P' * S') (hq : Q * S = Q' * S') (hr : R * S = R' * S') (h : ((P : Int) - Q).natAbs ≤ ((P : Int) - R).natAbs) : ((P' : Int) - Q').natAbs ≤ ((P' : Int) - R').natAbs := by
  have m : ∀ x y k : Nat, ((x : Int) - y).natAbs * k = (((x * k : Nat) : Int) - ((y * k : Nat) : Int)).natAbs := fun x y k => by
    rw [Int.natCast_mul, Int.natCast_mul, ← Int.sub_mul, Int.natAbs_mul, Int.natAbs_natCast]
  refine Nat.le_of_mul_le_mul_right (c := S') ?_ hS'
  rw [m, m, ← hp, ← hq, ← hr, ← m, ← m]
  exact Nat.mul_le_mul_right _ h
/-- no double is nearer to the quotient than the rounded one -/
theorem quot_near {a b : UInt64} (ha : DFin a) (hb : DFin b) (hz : zv b ≠ 0) (hf : DFin (ddiv a b)) {V : Datum} (fV : fits b64 V) (hV : ∃ s c q, V = .fin s c q) :
    ((((zv a).natAbs * one64 : Nat) : Int) - ((zmag b64 (val64 (ddiv a b)) * (zv b).natAbs : Nat) : Int)).natAbs ≤ ((((zv a).natAbs * one64 : Nat) : Int) - ((zmag b64 V * (zv b).natAbs : Nat) : Int)).natAbs := by
  obtain ⟨s, c, q, h1⟩ := ha
  obtain ⟨t, d, r, h2⟩ := hb
  have f1 := val64_fits a
  have f2 := val64_fits b
  have f3 := val64_fits (ddiv a b)
  rw [h1] at f1
  rw [h2] at f2
  have z1 : (zv a).natAbs = c * 2 ^ (q - b64.qmin).toNat := by unfold zv zval; rw [natAbs_signed, h1]; rfl
  have z2 : (zv b).natAbs = d * 2 ^ (r - b64.qmin).toNat := by unfold zv zval; rw [natAbs_signed, h2]; rfl
  have hd : d ≠ 0 := by
    intro hd
    rw [hd, Nat.zero_mul] at z2
    omega
  have hR : val64 (ddiv a b) = roundRatio b64 (s != t) c d (q - r) := by
    rw [val64_ddiv, h1, h2]
    show (if d = 0 then _ else roundRatio b64 (s != t) c d (q - r)) = _
    rw [if_neg hd]
  obtain ⟨s3, c3, q3, h3⟩ := hf
  obtain ⟨s4, c4, q4, rfl⟩ := hV
  rw [h3] at f3 hR
  have k1 := Int.min_le_left b64.qmin (q - r)
  have k2 := Int.min_le_right b64.qmin (q - r)
  have hn := roundRatio_nearest good_b64 (by omega) hR.symm fV.1 fV.2.1 k1 k2
  generalize min b64.qmin (q - r) = e0 at k1 k2 hn
  unfold distance at hn
  rw [units_fin f3 k1, units_fin fV k1, ← Int.natCast_mul, ← Int.natCast_mul] at hn
  have g1 := f1.2.1
  have g2 := f2.2.1
  have hs : (q - r - e0).toNat + (r - b64.qmin).toNat = (b64.qmin - e0).toNat + ((q - b64.qmin).toNat + (-b64.qmin).toNat) := by
    have := qmin_b64
    omega
  rw [h3]
  refine near_scale (S := 2 ^ (r - b64.qmin).toNat) (S' := 2 ^ (b64.qmin - e0).toNat) (Nat.two_pow_pos _) ?_ ?_ ?_ hn
  · rw [z1, ← pow_qmin64]
    unfold inUnits
    rw [Nat.mul_assoc, Nat.mul_assoc, Nat.mul_assoc, ← Nat.pow_add, ← Nat.pow_add, ← Nat.pow_add, hs]
    congr 2; omega
  · rw [z2]; ac_rfl
  · rw [z2]; ac_rfl
theorem nat_round {A N z one half : Nat} (hN : 0 < N) (ho : one = 2 * half) (h1 : 0 < one) (hnear : 2 * (((A * one : Nat) : Int) - ((z * N : Nat) : Int)).natAbs < one) (hlow : ∀ K, 1 ≤ K → (2 * K - 1) * N ≤ 2 * A → (2 * K - 1) * half ≤ z) : (2 * z + one) / (2 * one) = (2 * A + N) / (2 * N) := by
  have hK1 : (2 * A + N) / (2 * N) * (2 * N) ≤ 2 * A + N := Nat.div_mul_le_self _ _
  have hK2 : 2 * A + N < ((2 * A + N) / (2 * N) + 1) * (2 * N) := by
    have := Nat.lt_mul_div_succ (2 * A + N) (show 0 < 2 * N by omega)
    rw [Nat.mul_comm ((2 * A + N) / (2 * N) + 1) (2 * N)]; exact this
  generalize (2 * A + N) / (2 * N) = K at *
  have e1 : K * (2 * N) = 2 * (K * N) := Nat.mul_left_comm ..
  have e2 : (K + 1) * (2 * N) = 2 * (K * N) + 2 * N := by rw [Nat.add_mul, e1, Nat.one_mul]
  rw [e1] at hK1
  rw [e2] at hK2
  refine Nat.div_eq_of_lt_le ?_ ?_
  · by_cases h0 : K = 0
    · subst h0; omega
    · have h2 := hlow K (by omega) (by
        rw [Nat.sub_mul, Nat.one_mul, Nat.mul_assoc]; omega)
      rw [Nat.sub_mul, Nat.one_mul, Nat.mul_assoc] at h2
      have e3 : K * (2 * one) = 4 * (K * half) := by rw [ho, ← Nat.mul_assoc 2 2 half, Nat.mul_left_comm]
      rw [e3, ho]; omega
  · have h3 : 2 * (z * N) < (2 * A + 1) * one := by
      rw [Nat.add_mul, Nat.one_mul, Nat.mul_assoc]; omega
    have h4 : (2 * A + 1) * one ≤ ((2 * K + 1) * N) * one := Nat.mul_le_mul_right _ (by rw [Nat.add_mul, Nat.one_mul, Nat.mul_assoc]; omega)
    have h5 : (2 * z) * N < ((2 * K + 1) * one) * N := by
      rw [Nat.mul_assoc 2 z N, Nat.mul_right_comm (2 * K + 1) one N]; omega
    have h6 := Nat.lt_of_mul_lt_mul_right h5
    rw [Nat.add_mul, Nat.one_mul, Nat.mul_assoc] at h6
    have e4 : (K + 1) * (2 * one) = 2 * (K * one) + 2 * one := by rw [Nat.add_mul, Nat.one_mul, Nat.mul_left_comm]
    rw [e4]; omega
theorem one_eq : one64 = 2 * half64 := by unfold one64 half64; rw [show 1074 = 1073 + 1 from rfl, Nat.pow_succ, Nat.mul_comm]
theorem sgn_l2d {x : Int64} (h : 0 ≤ x.toInt) : sgn (val64 (l2d x)) = false := by
  obtain ⟨c, q, h1⟩ := l2d_shape x
  rw [h1]
  show decide (x.toInt < 0) = false
  simp; omega
/-- the rounded quotient of two whole numbers, rounded to a whole number, is the quotient rounded -/
theorem div_round {x y : Int64} (hx0 : 0 ≤ x.toInt) (hx : 2 * x.toInt < 9007199254740992) (hy0 : 0 < y.toInt) (hy : y.toInt < 9007199254740992) :
    ∃ z : Nat, DFin (ddiv (l2d x) (l2d y)) ∧ sgn (val64 (ddiv (l2d x) (l2d y))) = false ∧ zv (ddiv (l2d x) (l2d y)) = (z : Int) ∧ z ≤ x.toInt.toNat * one64 ∧ (2 * z + one64) / (2 * one64) = (2 * x.toInt.toNat + y.toInt.toNat) / (2 * y.toInt.toNat) := by
  have za0 := l2d_z (x := x) (by omega)
  have zb0 := l2d_z (x := y) (by omega)
  have hA : x.toInt = (x.toInt.toNat : Int) := by omega
  have hB : y.toInt = (y.toInt.toNat : Int) := by omega
  rw [hA] at za0
  rw [hB] at zb0
  have hA53 : 2 * x.toInt.toNat < 9007199254740992 := by omega
  have hN53 : y.toInt.toNat < 9007199254740992 := by omega
  have hN : 0 < y.toInt.toNat := by omega
  have ss : sgn (val64 (ddiv (l2d x) (l2d y))) = false := by
    by_cases hz : zv (l2d y) = 0
    · exfalso; rw [zb0] at hz
      have := one64_pos
      rcases Int.mul_eq_zero.mp hz with h | h <;> omega
    · rw [ddiv_sgn (l2d_fin x) (l2d_fin y) hz, sgn_l2d hx0, sgn_l2d (by omega)]; rfl
  generalize x.toInt.toNat = A at *
  generalize y.toInt.toNat = N at *
  have o := one64_pos
  have na : (zv (l2d x)).natAbs = A * one64 := by rw [za0, Int.natAbs_mul, Int.natAbs_natCast, Int.natAbs_natCast]
  have nb : (zv (l2d y)).natAbs = N * one64 := by rw [zb0, Int.natAbs_mul, Int.natAbs_natCast, Int.natAbs_natCast]
  have hz : zv (l2d y) ≠ 0 := by
    intro h
    rw [h] at nb
    have := Nat.mul_pos hN o
    omega
  have eo : ((2 ^ 1074 : Nat) : Int) = (one64 : Int) := rfl
  have eh : ((2 ^ 1073 : Nat) : Int) = (half64 : Int) := rfl
  have hfin : DFin (ddiv (l2d x) (l2d y)) ∧ zmag b64 (val64 (ddiv (l2d x) (l2d y))) ≤ A * one64 := by
    obtain ⟨V, fV, hV, eV⟩ := rep (A : Int) 1074 (by omega) (by decide)
    rw [eo] at eV
    have mV : zmag b64 V = A * one64 := by rw [zmag_nat, eV, Int.natAbs_mul, Int.natAbs_natCast, Int.natAbs_natCast]
    have hle := ddiv_le (l2d_fin x) (l2d_fin y) hz fV (fin_ne hV) (by
      rw [na, nb, mV]
      calc A * one64 * one64 ≤ A * one64 * (N * one64) := Nat.mul_le_mul_left _ (Nat.le_mul_of_pos_left _ hN)
        _ = _ := rfl)
    refine ⟨fin_of ((notNaN_iff _).mp (ddiv_out (l2d_fin x).notNaN (l2d_fin y) (nz_of (l2d_fin y) hz))) (Nat.lt_of_le_of_lt hle ?_), by rw [← mV]; exact hle⟩
    obtain ⟨s, c, q, rfl⟩ := hV
    exact zmag_lt_top good_b64 fV
  have hzv : zv (ddiv (l2d x) (l2d y)) = ((zmag b64 (val64 (ddiv (l2d x) (l2d y))) : Nat) : Int) := by
    unfold zv zval; rw [ss]; rfl
  refine ⟨zmag b64 (val64 (ddiv (l2d x) (l2d y))), hfin.1, ss, hzv, hfin.2, ?_⟩
  refine nat_round hN one_eq o ?_ ?_
  · have i1 : 2 ^ N.log2 ≤ N := Nat.log2_self_le (by omega)
    have i2 : N < 2 ^ (N.log2 + 1) := Nat.lt_log2_self
    have i3 : N.log2 < 53 := (Nat.pow_lt_pow_iff_right (by decide : 1 < 2)).mp (Nat.lt_of_le_of_lt i1 (by show N < 9007199254740992; exact hN53))
    have i4 : 2 ^ (N.log2 + 1) ≤ 2 * N := by rw [Nat.pow_succ]; omega
    have i5 : one64 = 2 ^ (N.log2 + 1) * 2 ^ (1074 - (N.log2 + 1)) := by unfold one64; rw [← Nat.pow_add]; congr 1; omega
    obtain ⟨w1, w2, -⟩ := nearest_spec (A * 2 ^ (N.log2 + 1)) N hN
    have w3 : nearest (A * 2 ^ (N.log2 + 1)) N ≤ 2 * A := nearest_le hN (by
      calc A * 2 ^ (N.log2 + 1) ≤ A * (2 * N) := Nat.mul_le_mul_left _ i4
        _ = 2 * A * N := by rw [Nat.mul_left_comm, Nat.mul_assoc])
    generalize nearest (A * 2 ^ (N.log2 + 1)) N = w at *
    obtain ⟨V, fV, hV, eV⟩ := rep (w : Int) (1074 - (N.log2 + 1)) (by omega) (by omega)
    generalize hP : 2 ^ (1074 - (N.log2 + 1)) = P at *
    generalize 2 ^ (N.log2 + 1) = Tw at *
    have mV : zmag b64 V = w * P := by rw [zmag_nat, eV, Int.natAbs_mul, Int.natAbs_natCast, Int.natAbs_natCast]
    have hn := quot_near (l2d_fin x) (l2d_fin y) hz hfin.1 fV hV
    rw [na, nb, mV] at hn
    generalize zmag b64 (val64 (ddiv (l2d x) (l2d y))) = z at *
    have hn2 := near_scale (S := 1) (S' := one64) (P' := A * one64) (Q' := z * N) (R' := w * P * N) o (Nat.mul_one _) (by rw [Nat.mul_one, Nat.mul_assoc]) (by rw [Nat.mul_one, ← Nat.mul_assoc]) hn
    have e1 : ((A * one64 : Nat) : Int) - ((w * P * N : Nat) : Int) = (((A * Tw : Nat) : Int) - ((w * N : Nat) : Int)) * (P : Int) := by
      rw [i5, Int.sub_mul, ← Int.natCast_mul, ← Int.natCast_mul, Nat.mul_assoc A Tw P, Nat.mul_right_comm w P N]
    rw [e1, Int.natAbs_mul, Int.natAbs_natCast] at hn2
    have h7 : 2 * (((A * Tw : Nat) : Int) - ((w * N : Nat) : Int)).natAbs ≤ N := by
      rw [Nat.add_mul, Nat.one_mul, Nat.mul_assoc] at w1
      rw [Nat.mul_assoc] at w2
      generalize A * Tw = u at *
      generalize w * N = v at *
      omega
    have h8 := Nat.mul_le_mul_right P h7
    have hPp : 0 < P := by rw [← hP]; exact Nat.two_pow_pos _
    have h9 : N * P < one64 := by rw [i5]; exact Nat.mul_lt_mul_of_pos_right i2 hPp
    rw [Nat.mul_assoc] at h8
    omega
  · intro K hK hle
    obtain ⟨V, fV, hV, eV⟩ := rep ((2 * K - 1 : Nat) : Int) 1073 (by
      have : 2 * K - 1 ≤ (2 * K - 1) * N := Nat.le_mul_of_pos_right _ hN
      rw [Int.natAbs_natCast]; show 2 * K - 1 < 9007199254740992; omega) (by decide)
    rw [eh] at eV
    have mV : zmag b64 V = (2 * K - 1) * half64 := by rw [zmag_nat, eV, Int.natAbs_mul, Int.natAbs_natCast, Int.natAbs_natCast]
    rw [← mV]
    refine ddiv_ge (l2d_fin x) (l2d_fin y) hz fV ?_
    rw [na, nb, mV]
    have oe := one_eq
    have hle2 := Nat.mul_le_mul_right (half64 * one64) hle
    generalize half64 = H at oe hle2 ⊢
    generalize one64 = O at oe hle2 ⊢
    calc (2 * K - 1) * H * (N * O) = (2 * K - 1) * N * (H * O) := by ac_rfl
      _ ≤ 2 * A * (H * O) := hle2
      _ = A * (2 * H) * O := by ac_rfl
      _ = A * O * O := by rw [← oe]
/-- what Math.round's rows reckon -/
def rnd (x : UInt64) : Int64 :=
  if ((1074 : Int64) - ((x.toInt64 &&& (9218868437227405312 : Int64)) >>> ((52 : Int32) &&& 0x3f).toInt64)) &&& (-64 : Int64) = 0 then
    (((((x.toInt64 &&& (4503599627370495 : Int64)) ||| (4503599627370496 : Int64)) >>> (((1074 : Int64) - ((x.toInt64 &&& (9218868437227405312 : Int64)) >>> ((52 : Int32) &&& 0x3f).toInt64)).toInt32 &&& 0x3f).toInt64) + (1 : Int64)) >>> ((1 : Int32) &&& 0x3f).toInt64)
  else d2l x
end Jvm.FP.Core.OwnFl
namespace Jvm.Pilot.@@N@@
open Jvm Jvm.ClassFile Sem Op Lib Jvm.Free Jvm.Stand Jvm.LawKit Jvm.RoadKit Bundle Jvm.Pilot.@@N@@.Jvm.D
theorem pd_0 : parseMethodDescriptor "()I" = some ⟨[], some .int⟩ := by decide +kernel
theorem pd_1 : parseMethodDescriptor "(DDD)D" = some ⟨[.double, .double, .double], some .double⟩ := by decide +kernel
theorem pn_0 : plainName "java/lang/Enum" = true := by first | (simp [plainName, overriddenIn]; done) | decide +kernel
theorem pn_1 : plainName "com/example/genius_loci/geniusloci/core/Similarity" = true := by first | (simp [plainName, overriddenIn]; done) | decide +kernel
theorem pn_2 : plainName "com/example/genius_loci/geniusloci/core/SimilarityOfPinLaw" = true := by first | (simp [plainName, overriddenIn]; done) | decide +kernel
theorem own_i64 (x : Int32) : x.toInt64.toInt = x.toInt := Int32.toInt_toInt64 x
theorem own_b53 (x : Int32) : B53 x.toInt64 := by
  have := Jvm.FP.Core.OwnFl.i32b x
  unfold B53; rw [own_i64]; omega
theorem own_cmp0 (x : Int32) : cmpValue (FP.dcmp (FP.i2d x) 0) .l = lcmpW x.toInt64 0 := by
  rw [i2d_w, ← l2d_zero]
  exact dcmpV_w (own_b53 x) (by unfold B53; decide) .l
theorem own_lcp {x : Int32} (h : (0 : Int32) < x) : (0 : Int32) < lcmpW x.toInt64 0 := by
  rw [Int32.lt_iff_toInt_lt] at h
  have h2 : (0 : Int64) < x.toInt64 := by rw [Int64.lt_iff_toInt_lt, own_i64]; exact h
  unfold lcmpW; rw [if_pos h2]; decide
theorem own_lcn {x : Int32} (h : ¬ ((0 : Int32) < x)) : ¬ ((0 : Int32) < lcmpW x.toInt64 0) := by
  rw [Int32.lt_iff_toInt_lt] at h
  have h2 : ¬ (x.toInt64 > (0 : Int64)) := by rw [gt_iff_lt, Int64.lt_iff_toInt_lt, own_i64]; exact h
  unfold lcmpW; rw [if_neg h2]; split <;> decide
theorem own_abI {a b : Int32} (ha : (0 : Int32) < a) (hb : (0 : Int32) < b) (ha9 : a.toInt < 9) (hb9 : b.toInt < 9) : (a.toInt64 * b.toInt64).toInt = a.toInt * b.toInt ∧ 1 ≤ a.toInt * b.toInt ∧ a.toInt * b.toInt ≤ 64 := by
  rw [Int32.lt_iff_toInt_lt] at ha hb
  have h0 : (0 : Int32).toInt = 0 := by decide
  rw [h0] at ha hb
  have h1 : a.toInt * b.toInt ≤ 64 := by
    have := Int.mul_le_mul (show a.toInt ≤ 8 by omega) (show b.toInt ≤ 8 by omega) (by omega) (by decide)
    omega
  have h2 : 1 ≤ a.toInt * b.toInt := Int.mul_pos (by omega) (by omega)
  refine ⟨?_, h2, h1⟩
  rw [Jvm.FP.Core.int64_mul (by rw [own_i64, own_i64]; omega) (by rw [own_i64, own_i64]; omega), own_i64, own_i64]
theorem own_ab {a b : Int32} (ha : (0 : Int32) < a) (hb : (0 : Int32) < b) (ha9 : a.toInt < 9) (hb9 : b.toInt < 9) : Jvm.Free.Fl.NoNaN64 (FP.dmul (FP.i2d a) (FP.i2d b)) ∧ FP.dmul (FP.i2d a) (FP.i2d b) = FP.l2d (a.toInt64 * b.toInt64) := by
  obtain ⟨e, h1, h2⟩ := own_abI ha hb ha9 hb9
  have hne : ∀ {x : Int32}, (0 : Int32) < x → ¬ (x.toInt64 = 0) := fun {x} h q => by
    rw [Int32.lt_iff_toInt_lt] at h
    have := congrArg Int64.toInt q
    rw [own_i64] at this
    have h0 : (0 : Int32).toInt = 0 := by decide
    have h00 : (0 : Int64).toInt = 0 := by decide
    omega
  have e2 : FP.dmul (FP.i2d a) (FP.i2d b) = FP.l2d (a.toInt64 * b.toInt64) := by
    rw [i2d_w, i2d_w]
    exact dmul_w (own_b53 a) (own_b53 b) (hne ha) (hne hb) (by rw [own_i64, own_i64]; omega) (by rw [own_i64, own_i64]; omega)
  exact ⟨by rw [e2]; exact (Jvm.Free.Fl.l2d_fin _).noNaN, e2⟩
/-- the divisor's value -/
theorem own_zn {n : Int64} (h1 : 1 ≤ n.toInt) (h2 : n.toInt ≤ 64) : Jvm.FP.Core.OwnFl.zv (FP.l2d n) = n.toInt * (Jvm.FP.Core.one64 : Int) ∧ Jvm.FP.Core.OwnFl.zv (FP.l2d n) ≠ 0 := by
  have e := Jvm.FP.Core.OwnFl.l2d_z (x := n) (by omega)
  have o := Jvm.FP.Core.OwnFl.one_pos
  have : 0 < n.toInt * (Jvm.FP.Core.one64 : Int) := Int.mul_pos (by omega) o
  refine ⟨e, ?_⟩
  show Jvm.FP.Core.OwnFl.zv (Jvm.FP.Core.l2d n) ≠ 0
  rw [e]; omega
theorem own_dv {d : Int32} {n : Int64} (h1 : 1 ≤ n.toInt) (h2 : n.toInt ≤ 64) : Jvm.Free.Fl.NoNaN64 (FP.ddiv (FP.i2d d) (FP.l2d n)) :=
  Jvm.Free.Fl.noNaN64_no.mpr (Jvm.FP.Core.ddiv_out (Jvm.FP.Core.i2d_fin d).notNaN (Jvm.FP.Core.l2d_fin n) (Jvm.FP.Core.OwnFl.nz_of (Jvm.FP.Core.l2d_fin n) (own_zn h1 h2).2))
/-- exact where the quotient is whole -/
theorem own_exact {d k : Int32} {n : Int64} (h1 : 1 ≤ n.toInt) (h2 : n.toInt ≤ 64) (h : d.toInt = k.toInt * n.toInt) : FP.dcmp (FP.ddiv (FP.i2d d) (FP.l2d n)) (FP.i2d k) = some .eq := by
  have bk := Jvm.FP.Core.OwnFl.i32b k
  obtain ⟨V, fV, hV, eV⟩ := Jvm.FP.Core.OwnFl.rep k.toInt 1074 (by omega) (by decide)
  have eo : ((2 ^ 1074 : Nat) : Int) = (Jvm.FP.Core.one64 : Int) := rfl
  rw [eo] at eV
  obtain ⟨zn, zn0⟩ := own_zn h1 h2
  have q := Jvm.FP.Core.OwnFl.ddiv_z (Jvm.FP.Core.i2d_fin d) (Jvm.FP.Core.l2d_fin n) zn0 fV hV (by
    show Jvm.FP.Core.zval _ V * Jvm.FP.Core.OwnFl.zv (FP.l2d n) = _
    rw [eV, zn, Jvm.FP.Core.OwnFl.i2d_z, h]
    generalize (Jvm.FP.Core.one64 : Int) = o
    rw [Int.mul_assoc, Int.mul_assoc, Int.mul_assoc, Int.mul_left_comm o])
  exact Jvm.FP.Core.OwnFl.cmp_eq q.1 (Jvm.FP.Core.i2d_fin k) (by rw [q.2, eV, Jvm.FP.Core.OwnFl.i2d_z])
theorem own_zero {n : Int64} (h1 : 1 ≤ n.toInt) (h2 : n.toInt ≤ 64) {d : Int32} (hd : d = 0) : FP.dcmp (FP.ddiv (FP.i2d d) (FP.l2d n)) 0 = some .eq := by
  have := own_exact (d := d) (k := 0) h1 h2 (by subst hd; show (0 : Int) = 0 * _; omega)
  rw [show FP.i2d 0 = 0 by decide +kernel] at this
  exact this
theorem own_tiny : ∃ (W : Jvm.FP.Core.Datum) (w : Nat), Jvm.FP.Core.fits Jvm.FP.Core.b64 W ∧ (∃ s c q, W = .fin s c q) ∧ Jvm.FP.Core.zmag Jvm.FP.Core.b64 W = w ∧ w * 64 = Jvm.FP.Core.one64 ∧ 0 < w := by
  obtain ⟨W, fW, hW, eW⟩ := Jvm.FP.Core.OwnFl.rep 1 1068 (by decide) (by decide)
  refine ⟨W, 2 ^ 1068, fW, hW, by rw [Jvm.FP.Core.OwnFl.zmag_nat, eW, Int.one_mul, Int.natAbs_natCast], ?_, Nat.two_pow_pos _⟩
  have h : (2 : Nat) ^ 6 = 64 := by decide
  unfold Jvm.FP.Core.one64
  rw [show 1074 = 1068 + 6 from rfl, Nat.pow_add, h]
theorem own_quot {d : Int32} {n : Int64} (h1 : 1 ≤ n.toInt) (h2 : n.toInt ≤ 64) (hd : d.toInt ≠ 0) : Jvm.FP.Core.DFin (FP.ddiv (FP.i2d d) (FP.l2d n)) ∧
    (0 < d.toInt → 0 < Jvm.FP.Core.OwnFl.zv (FP.ddiv (FP.i2d d) (FP.l2d n)) ∧ Jvm.FP.Core.OwnFl.zv (FP.ddiv (FP.i2d d) (FP.l2d n)) ≤ Jvm.FP.Core.OwnFl.zv (FP.i2d d)) ∧
    (d.toInt < 0 → Jvm.FP.Core.OwnFl.zv (FP.ddiv (FP.i2d d) (FP.l2d n)) < 0 ∧ Jvm.FP.Core.OwnFl.zv (FP.i2d d) ≤ Jvm.FP.Core.OwnFl.zv (FP.ddiv (FP.i2d d) (FP.l2d n))) := by
  have bd := Jvm.FP.Core.OwnFl.i32b d
  have o := Jvm.FP.Core.one64_pos
  obtain ⟨zn, zn0⟩ := own_zn h1 h2
  have zd := Jvm.FP.Core.OwnFl.i2d_z d
  obtain ⟨N, hN⟩ : ∃ N : Nat, n.toInt = (N : Int) := ⟨n.toInt.toNat, by omega⟩
  have nN : (Jvm.FP.Core.OwnFl.zv (FP.l2d n)).natAbs = N * Jvm.FP.Core.one64 := by rw [zn, hN, Int.natAbs_mul, Int.natAbs_natCast, Int.natAbs_natCast]
  have nD : (Jvm.FP.Core.OwnFl.zv (FP.i2d d)).natAbs = d.toInt.natAbs * Jvm.FP.Core.one64 := by rw [show Jvm.FP.Core.OwnFl.zv (FP.i2d d) = d.toInt * (Jvm.FP.Core.one64 : Int) from zd, Int.natAbs_mul, Int.natAbs_natCast]
  obtain ⟨V, fV, hV, eV⟩ := Jvm.FP.Core.OwnFl.rep d.toInt 1074 (by omega) (by decide)
  have eo : ((2 ^ 1074 : Nat) : Int) = (Jvm.FP.Core.one64 : Int) := rfl
  rw [eo] at eV
  clear eo
  have mV : Jvm.FP.Core.zmag Jvm.FP.Core.b64 V = d.toInt.natAbs * Jvm.FP.Core.one64 := by rw [Jvm.FP.Core.OwnFl.zmag_nat, eV, Int.natAbs_mul, Int.natAbs_natCast]
  have hle := Jvm.FP.Core.OwnFl.ddiv_le (a := FP.i2d d) (b := FP.l2d n) (Jvm.FP.Core.i2d_fin d) (Jvm.FP.Core.l2d_fin n) zn0 fV (Jvm.FP.Core.OwnFl.fin_ne hV) (by
    rw [nN, nD, mV]
    exact Nat.mul_le_mul_left _ (Nat.le_mul_of_pos_left _ (by omega)))
  obtain ⟨W, w, fW, hW, mW, e6, hpos⟩ := own_tiny
  have hge := Jvm.FP.Core.OwnFl.ddiv_ge (a := FP.i2d d) (b := FP.l2d n) (Jvm.FP.Core.i2d_fin d) (Jvm.FP.Core.l2d_fin n) zn0 fW (by
    rw [nN, nD, mW]
    have : w * N ≤ Jvm.FP.Core.one64 := by rw [← e6]; exact Nat.mul_le_mul_left _ (by omega)
    calc w * (N * Jvm.FP.Core.one64) = w * N * Jvm.FP.Core.one64 := by rw [Nat.mul_assoc]
      _ ≤ Jvm.FP.Core.one64 * Jvm.FP.Core.one64 := Nat.mul_le_mul_right _ this
      _ ≤ d.toInt.natAbs * Jvm.FP.Core.one64 * Jvm.FP.Core.one64 := Nat.mul_le_mul_right _ (Nat.le_mul_of_pos_left _ (by omega)))
  rw [mW] at hge
  rw [mV] at hle
  have hfin : Jvm.FP.Core.DFin (FP.ddiv (FP.i2d d) (FP.l2d n)) := by
    refine Jvm.FP.Core.OwnFl.fin_of ((Jvm.FP.Core.notNaN_iff _).mp (Jvm.FP.Core.ddiv_out (Jvm.FP.Core.i2d_fin d).notNaN (Jvm.FP.Core.l2d_fin n) (Jvm.FP.Core.OwnFl.nz_of (Jvm.FP.Core.l2d_fin n) zn0))) (Nat.lt_of_le_of_lt hle ?_)
    rw [← mV]
    obtain ⟨s, c, q, rfl⟩ := hV
    exact Jvm.FP.Core.zmag_lt_top Jvm.FP.Core.good_b64 fV
  have hs := Jvm.FP.Core.OwnFl.ddiv_sgn (a := FP.i2d d) (b := FP.l2d n) (Jvm.FP.Core.i2d_fin d) (Jvm.FP.Core.l2d_fin n) zn0
  rw [Jvm.FP.Core.OwnFl.sgn_l2d (x := n) (by omega)] at hs
  have hsd : Jvm.FP.Core.sgn (Jvm.FP.Core.val64 (FP.i2d d)) = decide (d.toInt < 0) := by
    rw [i2d_w]
    obtain ⟨c, q, h⟩ := Jvm.FP.Core.l2d_shape d.toInt64
    rw [h, own_i64]; rfl
  rw [hsd] at hs
  have hz : Jvm.FP.Core.OwnFl.zv (FP.ddiv (FP.i2d d) (FP.l2d n)) = Jvm.FP.Core.signed (decide (d.toInt < 0) != false) (Jvm.FP.Core.zmag Jvm.FP.Core.b64 (Jvm.FP.Core.val64 (FP.ddiv (FP.i2d d) (FP.l2d n)))) := by
    rw [← hs]; rfl
  have zd' : Jvm.FP.Core.OwnFl.zv (FP.i2d d) = d.toInt * (Jvm.FP.Core.one64 : Int) := zd
  generalize Jvm.FP.Core.zmag Jvm.FP.Core.b64 (Jvm.FP.Core.val64 (FP.ddiv (FP.i2d d) (FP.l2d n))) = z at *
  refine ⟨hfin, fun hp => ?_, fun hn => ?_⟩
  · rw [hz, zd', decide_eq_false (by omega)]
    have e1 : d.toInt * (Jvm.FP.Core.one64 : Int) = ((d.toInt.natAbs * Jvm.FP.Core.one64 : Nat) : Int) := by rw [Int.natCast_mul]; congr 1; omega
    rw [e1]
    show 0 < (z : Int) ∧ (z : Int) ≤ _
    omega
  · rw [hz, zd', decide_eq_true hn]
    have e1 : d.toInt * (Jvm.FP.Core.one64 : Int) = -((d.toInt.natAbs * Jvm.FP.Core.one64 : Nat) : Int) := by rw [Int.natCast_mul, ← Int.neg_mul]; congr 1; omega
    rw [e1]
    show -(z : Int) < 0 ∧ _ ≤ -(z : Int)
    omega
theorem own_fin0 : Jvm.FP.Core.DFin 0 := (Jvm.FP.Core.fin_bits _).mpr (by decide)
theorem own_zv0 : Jvm.FP.Core.OwnFl.zv 0 = 0 := Jvm.FP.Core.zval64_zero
theorem own_pos1 {d : Int32} {n : Int64} (h1 : 1 ≤ n.toInt) (h2 : n.toInt ≤ 64) (hd : (0 : Int32) < d) : cmpValue (FP.dcmp 0 (FP.ddiv (FP.i2d d) (FP.l2d n))) .g = -1 := by
  rw [Int32.lt_iff_toInt_lt] at hd
  have h0 : (0 : Int32).toInt = 0 := by decide
  obtain ⟨f, p, -⟩ := own_quot h1 h2 (d := d) (by omega)
  have := Jvm.FP.Core.OwnFl.cmp_lt own_fin0 f (by rw [own_zv0]; exact (p (by omega)).1)
  rw [show FP.dcmp 0 (FP.ddiv (FP.i2d d) (FP.l2d n)) = some .lt from this]; rfl
theorem own_cle {a b : UInt64} (ha : Jvm.FP.Core.DFin a) (hb : Jvm.FP.Core.DFin b) (h : Jvm.FP.Core.OwnFl.zv a ≤ Jvm.FP.Core.OwnFl.zv b) : ¬ ((0 : Int32) < cmpValue (FP.dcmp a b) .g) := by
  rcases Int.lt_or_eq_of_le h with h | h
  · rw [show FP.dcmp a b = some .lt from Jvm.FP.Core.OwnFl.cmp_lt ha hb h]; decide
  · rw [show FP.dcmp a b = some .eq from Jvm.FP.Core.OwnFl.cmp_eq ha hb h]; decide
theorem own_pos2 {d : Int32} {n : Int64} (h1 : 1 ≤ n.toInt) (h2 : n.toInt ≤ 64) (hd : (0 : Int32) < d) : ¬ ((0 : Int32) < cmpValue (FP.dcmp (FP.ddiv (FP.i2d d) (FP.l2d n)) (FP.i2d d)) .g) := by
  rw [Int32.lt_iff_toInt_lt] at hd
  have h0 : (0 : Int32).toInt = 0 := by decide
  obtain ⟨f, p, -⟩ := own_quot h1 h2 (d := d) (by omega)
  exact own_cle f (Jvm.FP.Core.i2d_fin d) (p (by omega)).2
theorem own_neg1 {d : Int32} {n : Int64} (h1 : 1 ≤ n.toInt) (h2 : n.toInt ≤ 64) (hd : d < (0 : Int32)) : ¬ ((0 : Int32) < cmpValue (FP.dcmp (FP.i2d d) (FP.ddiv (FP.i2d d) (FP.l2d n))) .g) := by
  rw [Int32.lt_iff_toInt_lt] at hd
  have h0 : (0 : Int32).toInt = 0 := by decide
  obtain ⟨f, -, p⟩ := own_quot h1 h2 (d := d) (by omega)
  exact own_cle (Jvm.FP.Core.i2d_fin d) f (p (by omega)).2
theorem own_neg2 {d : Int32} {n : Int64} (h1 : 1 ≤ n.toInt) (h2 : n.toInt ≤ 64) (hd : d < (0 : Int32)) : cmpValue (FP.dcmp (FP.ddiv (FP.i2d d) (FP.l2d n)) 0) .g = -1 := by
  rw [Int32.lt_iff_toInt_lt] at hd
  have h0 : (0 : Int32).toInt = 0 := by decide
  obtain ⟨f, -, p⟩ := own_quot h1 h2 (d := d) (by omega)
  have := Jvm.FP.Core.OwnFl.cmp_lt f own_fin0 (by rw [own_zv0]; exact (p (by omega)).1)
  rw [show FP.dcmp (FP.ddiv (FP.i2d d) (FP.l2d n)) 0 = some .lt from this]; rfl
theorem own_self {d : Int32} : cmpValue (FP.dcmp (FP.i2d d) (FP.i2d d)) .l = 0 := by
  rw [show FP.dcmp (FP.i2d d) (FP.i2d d) = some .eq from Jvm.FP.Core.OwnFl.cmp_eq (Jvm.FP.Core.i2d_fin d) (Jvm.FP.Core.i2d_fin d) rfl]; rfl
theorem own_self0 : cmpValue (FP.dcmp 0 0) .l = 0 := by decide +kernel
theorem own_mod {x m : Int32} {M : Int} (hm : m.toInt = M) (hM : 0 < M) : -M < (x % m).toInt ∧ (x % m).toInt < M := by
  rw [Int32.toInt_mod, hm]
  exact tmod_bounds hM
/-- what Similarity.of reckons -/
def own_of (o d a b : Int32) : UInt64 := if o = 0 then (if (0 : Int32) < a ∧ (0 : Int32) < b then FP.ddiv (FP.i2d d) (FP.l2d (a.toInt64 * b.toInt64)) else 0) else FP.i2d d
theorem own_of1 {o d a b : Int32} (h : o = 1) : own_of o d a b = FP.i2d d := by subst h; rfl
theorem own_of0 {o d a b : Int32} (h : o = 0) (ha : (0 : Int32) < a) (hb : (0 : Int32) < b) : own_of o d a b = FP.ddiv (FP.i2d d) (FP.l2d (a.toInt64 * b.toInt64)) := by subst h; unfold own_of; rw [if_pos rfl, if_pos ⟨ha, hb⟩]
theorem own_ofz {o d a b : Int32} (h : o = 0) (hab : ¬ ((0 : Int32) < a ∧ (0 : Int32) < b)) : own_of o d a b = 0 := by subst h; unfold own_of; rw [if_pos rfl, if_neg hab]
theorem own_kab {k a b : Int32} (hk : -1000 < k.toInt ∧ k.toInt < 1000) (ha : (0 : Int32) < a) (hb : (0 : Int32) < b) (ha9 : a.toInt < 9) (hb9 : b.toInt < 9) : ((k * a) * b).toInt = k.toInt * (a.toInt64 * b.toInt64).toInt := by
  obtain ⟨e, h1, h2⟩ := own_abI ha hb ha9 hb9
  rw [Int32.lt_iff_toInt_lt] at ha hb
  have h0 : (0 : Int32).toInt = 0 := by decide
  have b1 : -8000 ≤ k.toInt * a.toInt ∧ k.toInt * a.toInt ≤ 8000 := by
    have hn : (k.toInt * a.toInt).natAbs ≤ 1000 * 8 := by rw [Int.natAbs_mul]; exact Nat.mul_le_mul (by omega) (by omega)
    omega
  have e1 : (k * a).toInt = k.toInt * a.toInt := by rw [Int32.toInt_mul]; exact Int.bmod_eq_of_le (by omega) (by omega)
  have b2 : -64000 ≤ k.toInt * a.toInt * b.toInt ∧ k.toInt * a.toInt * b.toInt ≤ 64000 := by
    have hn : (k.toInt * a.toInt * b.toInt).natAbs ≤ 8000 * 8 := by rw [Int.natAbs_mul]; exact Nat.mul_le_mul (by omega) (by omega)
    omega
  rw [Int32.toInt_mul, e1, e, ← Int.mul_assoc]
  exact Int.bmod_eq_of_le (by omega) (by omega)
theorem own_ceq {a b : UInt64} (h : FP.dcmp a b = some .eq) : cmpValue (FP.dcmp a b) .l = 0 := by rw [h]; rfl
theorem own_tri {d : Int32} (h1 : ¬ ((0 : Int32) < d)) (h2 : ¬ (d < (0 : Int32))) : d = 0 := by
  apply Int32.toInt_inj.mp
  rw [Int32.lt_iff_toInt_lt] at h1 h2
  omega
theorem own_eqint {args : Array Value} {Z : State} {t : Jvm.Term} {k : Int32} (h : (Jvm.Cond.eq t (Jvm.Term.int k)).value args Z none Z [] = some true) : t.eval args Z none [] Z = some (.int k) := by
  simp only [Cond.value, Term.eval] at h
  cases ht : t.eval args Z none [] Z with
  | none => simp [ht] at h
  | some x => cases x <;> simp [ht] at h ⊢; exact h

theorem d2_0 : decode jdk_37_method_2_code 0 = .ok (.aload_n 0, 1) := by decide +kernel
theorem d2_1 : decode jdk_37_method_2_code 1 = .ok (.getfield 7, 3) := by decide +kernel
theorem d2_4 : decode jdk_37_method_2_code 4 = .ok (.ireturn, 1) := by decide +kernel
theorem ef_2 (m : MethodId) (x0 : Addr) : entryFrame m #[(.ref x0)] 1 = mkF m 0 #[.val (.ref x0)] [] := by first | (simp [entryFrame, mkF, argsToLocals, Value.category]; done) | rfl
def Q2 (Z : State) (a1 : Addr) (o : Int32) (h0 : Heap) (n0 : Nat) (v : Option Value) (h : Heap) (L : List Loc) : Prop := v = some (.int o) ∧ Fr n0 L ∧ h = h0
set_option maxRecDepth 65536 in
set_option maxHeartbeats 40000000 in
theorem rm2 (l : Launch) (Z : State) (a0 : Array Value) (hw : ∀ d ∈ tables_1, d.before a0 Z = true) (ws : List Jvm.Cond) (a1 : Addr) (o : Int32) (h0 : Heap) (n0 : Nat) (Z0 : n0 ≤ h0.size) (F_o : Fld Z h0 a1 "java/lang/Enum" "ordinal" "I" (.int o)) :
    MetFree l (⟨"java/lang/Enum", "ordinal", "()I"⟩ : MethodName) (head1 (Jvm.Cond.code (⟨"java/lang/Enum", "ordinal", "()I"⟩ : MethodName) jdk_37_method_2_code 1 (some .int) :: ws) ({ frames := 0, cells := 0, slots := 0, locals := 0 } : Room)) (fun ar_ U_ => ar_ = #[(.ref a1)] ∧ Z.Warmed39 U_.vm ∧ U_.heap = h0) (fun _ _ _ _ _ => True) (fun _ U_ oc_ Ue_ => ∃ v_ L_, oc_ = .returned v_ ∧ Q2 Z a1 o h0 n0 v_ Ue_.heap L_ ∧ FrameEnd U_ oc_ Ue_ L_ ({ frames := 0, cells := 0, slots := 0, locals := 0 } : Room).cells ({ frames := 0, cells := 0, slots := 0, locals := 0 } : Room).slots) := by
  refine MetFree.of_bodySF (plainFor_of_name pn_0) hisR ?_
  intro p e s m args below meth c s₁ Bd hml0 hP hK
  obtain ⟨rfl, hZ, hh⟩ := hP
  have hx := Bd.exec
  have hby := Bd.bytes
  have hml : c.maxLocals = 1 := hml0
  have hown : s.vm.findClass "java/lang/Enum" = some m.cls := findClass_of_methodNamed Bd.named
  have hnm := (name_of_methodNamed Bd.named Bd.method).1
  have X0 : Stand p l e ({ frames := 0, cells := 0, slots := 0, locals := 0 } : Room) s m #[(.ref a1)] below meth c s₁ [] 0 0 := Stand.of_body Bd
  have e0 : s₁.heap = h0 := by rw [← hh, Bd.state]; rfl
  have N0 := Fr.nil n0
  show OwnEnds p e below s (Q2 Z a1 o h0 n0) ({ frames := 0, cells := 0, slots := 0, locals := 0 } : Room).cells ({ frames := 0, cells := 0, slots := 0, locals := 0 } : Room).slots (s₁.setTop (entryFrame m #[(.ref a1)] 1))
  rw [ef_2]
  show OwnEnds _ _ _ _ _ _ _ (s₁.setTop (mkF m 0 #[.val (.ref a1)] []))
  refine OwnEnds.st (fun t_ k_ => XS.aloadN X0.here hx rfl (hb hby d2_0) rfl rfl k_) ?_
  show OwnEnds _ _ _ _ _ _ _ (s₁.setTop (mkF m 1 #[.val (.ref a1)] [(.ref a1)]))
  obtain ⟨T1, X1, e1, st1⟩ := getF X0 hx hZ hown (host := "") (Or.inl (hw _ (List.mem_of_getElem? (i := 16) rfl))) Via.refl e0 F_o (g := (mkF m 1 #[.val (.ref a1)] [(.ref a1)])) rfl rfl (hb hby d2_1)
  refine OwnEnds.st st1 ?_
  show OwnEnds _ _ _ _ _ _ _ (T1.setTop (mkF m 4 #[.val (.ref a1)] [(.int o)]))
  refine own_retI X1 hx Bd.returns Bd.notSynchronized (hb hby d2_4) ?_ (by decide) (by decide)
  show Q2 Z a1 o h0 n0 _ T1.heap _
  rw [e1]
  exact ⟨rfl, N0, rfl⟩
theorem d1_0 : decode prog_29_method_5_code 0 = .ok (.dload_n 3, 1) := by decide +kernel
theorem d1_1 : decode prog_29_method_5_code 1 = .ok (.dconst 0, 1) := by decide +kernel
theorem d1_2 : decode prog_29_method_5_code 2 = .ok (.dcmp .l, 1) := by decide +kernel
theorem d1_3 : decode prog_29_method_5_code 3 = .ok (.ifCond .le 14, 3) := by decide +kernel
theorem d1_6 : decode prog_29_method_5_code 6 = .ok (.dload 5, 2) := by decide +kernel
theorem d1_8 : decode prog_29_method_5_code 8 = .ok (.dconst 0, 1) := by decide +kernel
theorem d1_9 : decode prog_29_method_5_code 9 = .ok (.dcmp .l, 1) := by decide +kernel
theorem d1_10 : decode prog_29_method_5_code 10 = .ok (.ifCond .le 7, 3) := by decide +kernel
theorem d1_13 : decode prog_29_method_5_code 13 = .ok (.iconst 1, 1) := by decide +kernel
theorem d1_14 : decode prog_29_method_5_code 14 = .ok (.goto 4, 3) := by decide +kernel
theorem d1_17 : decode prog_29_method_5_code 17 = .ok (.iconst 0, 1) := by decide +kernel
theorem d1_18 : decode prog_29_method_5_code 18 = .ok (.istore 7, 2) := by decide +kernel
theorem d1_20 : decode prog_29_method_5_code 20 = .ok (.aload_n 0, 1) := by decide +kernel
theorem d1_21 : decode prog_29_method_5_code 21 = .ok (.invokevirtual 33, 3) := by decide +kernel
theorem d1_24 : decode prog_29_method_5_code 24 = .ok (.lookupswitch 28 #[(0, 38), (1, 56)], 28) := by decide +kernel
theorem d1_62 : decode prog_29_method_5_code 62 = .ok (.iload 7, 2) := by decide +kernel
theorem d1_64 : decode prog_29_method_5_code 64 = .ok (.ifCond .eq 12, 3) := by decide +kernel
theorem d1_67 : decode prog_29_method_5_code 67 = .ok (.dload_n 1, 1) := by decide +kernel
theorem d1_68 : decode prog_29_method_5_code 68 = .ok (.dload_n 3, 1) := by decide +kernel
theorem d1_69 : decode prog_29_method_5_code 69 = .ok (.dload 5, 2) := by decide +kernel
theorem d1_71 : decode prog_29_method_5_code 71 = .ok (.dmul, 1) := by decide +kernel
theorem d1_72 : decode prog_29_method_5_code 72 = .ok (.ddiv, 1) := by decide +kernel
theorem d1_73 : decode prog_29_method_5_code 73 = .ok (.goto 8, 3) := by decide +kernel
theorem d1_76 : decode prog_29_method_5_code 76 = .ok (.dconst 0, 1) := by decide +kernel
theorem d1_77 : decode prog_29_method_5_code 77 = .ok (.goto 4, 3) := by decide +kernel
theorem d1_80 : decode prog_29_method_5_code 80 = .ok (.dload_n 1, 1) := by decide +kernel
theorem d1_81 : decode prog_29_method_5_code 81 = .ok (.dreturn, 1) := by decide +kernel
theorem ef_1 (m : MethodId) (x0 : Addr) (x1 : UInt64) (x2 : UInt64) (x3 : UInt64) : entryFrame m #[(.ref x0), (.double x1), (.double x2), (.double x3)] 8 = mkF m 0 #[.val (.ref x0), .val (.double x1), .second, .val (.double x2), .second, .val (.double x3), .second, .unset] [] := by first | (simp [entryFrame, mkF, argsToLocals, Value.category]; done) | rfl
def Q1 (Z : State) (a1 : Addr) (o : Int32) (d : Int32) (a : Int32) (b : Int32) (h0 : Heap) (n0 : Nat) (v : Option Value) (h : Heap) (L : List Loc) : Prop := v = some (.double (own_of o d a b)) ∧ Fr n0 L ∧ h = h0
set_option maxRecDepth 65536 in
set_option maxHeartbeats 40000000 in
theorem rm1 (l : Launch) (Z : State) (a0 : Array Value) (hw : ∀ d ∈ tables_1, d.before a0 Z = true) (ws : List Jvm.Cond) (a1 : Addr) (o : Int32) (d : Int32) (a : Int32) (b : Int32) (h0 : Heap) (n0 : Nat) (Z0 : n0 ≤ h0.size) (E_a1 : Exa Z h0 a1 "com/example/genius_loci/geniusloci/core/Similarity") (F_o : Fld Z h0 a1 "java/lang/Enum" "ordinal" "I" (.int o)) (ho : o = 0 ∨ o = 1) (ha9 : a.toInt < 9) (hb9 : b.toInt < 9) :
    MetFree l (⟨"com/example/genius_loci/geniusloci/core/Similarity", "of", "(DDD)D"⟩ : MethodName) (head1 (Jvm.Cond.code (⟨"com/example/genius_loci/geniusloci/core/Similarity", "of", "(DDD)D"⟩ : MethodName) prog_29_method_5_code 8 (some .double) :: ws) ({ frames := 1, cells := 0, slots := 0, locals := 12 } : Room)) (fun ar_ U_ => ar_ = #[(.ref a1), (.double (FP.i2d d)), (.double (FP.i2d a)), (.double (FP.i2d b))] ∧ Z.Warmed39 U_.vm ∧ U_.heap = h0) (fun _ _ _ _ _ => True) (fun _ U_ oc_ Ue_ => ∃ v_ L_, oc_ = .returned v_ ∧ Q1 Z a1 o d a b h0 n0 v_ Ue_.heap L_ ∧ FrameEnd U_ oc_ Ue_ L_ ({ frames := 1, cells := 0, slots := 0, locals := 12 } : Room).cells ({ frames := 1, cells := 0, slots := 0, locals := 12 } : Room).slots) := by
  refine MetFree.of_bodySF (plainFor_of_name pn_1) hisR ?_
  intro p e s m args below meth c s₁ Bd hml0 hP hK
  obtain ⟨rfl, hZ, hh⟩ := hP
  have hx := Bd.exec
  have hby := Bd.bytes
  have hml : c.maxLocals = 8 := hml0
  have hown : s.vm.findClass "com/example/genius_loci/geniusloci/core/Similarity" = some m.cls := findClass_of_methodNamed Bd.named
  have hnm := (name_of_methodNamed Bd.named Bd.method).1
  have X0 : Stand p l e ({ frames := 1, cells := 0, slots := 0, locals := 12 } : Room) s m #[(.ref a1), (.double (FP.i2d d)), (.double (FP.i2d a)), (.double (FP.i2d b))] below meth c s₁ [] 0 0 := Stand.of_body Bd
  have e0 : s₁.heap = h0 := by rw [← hh, Bd.state]; rfl
  have N0 := Fr.nil n0
  show OwnEnds p e below s (Q1 Z a1 o d a b h0 n0) ({ frames := 1, cells := 0, slots := 0, locals := 12 } : Room).cells ({ frames := 1, cells := 0, slots := 0, locals := 12 } : Room).slots (s₁.setTop (entryFrame m #[(.ref a1), (.double (FP.i2d d)), (.double (FP.i2d a)), (.double (FP.i2d b))] 8))
  rw [ef_1]
  show OwnEnds _ _ _ _ _ _ _ (s₁.setTop (mkF m 0 #[.val (.ref a1), .val (.double (FP.i2d d)), .second, .val (.double (FP.i2d a)), .second, .val (.double (FP.i2d b)), .second, .unset] []))
  refine OwnEnds.st (fun t_ k_ => XS.dloadN X0.here hx rfl (hb hby d1_0) rfl k_) ?_
  show OwnEnds _ _ _ _ _ _ _ (s₁.setTop (mkF m 1 #[.val (.ref a1), .val (.double (FP.i2d d)), .second, .val (.double (FP.i2d a)), .second, .val (.double (FP.i2d b)), .second, .unset] [(.double (FP.i2d a))]))
  refine OwnEnds.st (fun t_ k_ => XS.dconst0 X0.here hx rfl (hb hby d1_1) rfl k_) ?_
  show OwnEnds _ _ _ _ _ _ _ (s₁.setTop (mkF m 2 #[.val (.ref a1), .val (.double (FP.i2d d)), .second, .val (.double (FP.i2d a)), .second, .val (.double (FP.i2d b)), .second, .unset] [(.double (0 : UInt64)), (.double (FP.i2d a))]))
  refine OwnEnds.st (fun t_ k_ => XS.dcmpS X0.here hx rfl (hb hby d1_2) rfl (own_cmp0 a) k_) ?_
  show OwnEnds _ _ _ _ _ _ _ (s₁.setTop (mkF m 3 #[.val (.ref a1), .val (.double (FP.i2d d)), .second, .val (.double (FP.i2d a)), .second, .val (.double (FP.i2d b)), .second, .unset] [(.int (lcmpW a.toInt64 0))]))
  by_cases ha : (0 : Int32) < a
  · refine OwnEnds.st (fun t_ k_ => XS.ifNo X0.here hx rfl (hb hby d1_3) rfl ((if0 _ _).trans (tlt (own_lcp ha : (0 : Int32) < (lcmpW a.toInt64 0))).2.2.2) k_) ?_
    show OwnEnds _ _ _ _ _ _ _ (s₁.setTop (mkF m 6 #[.val (.ref a1), .val (.double (FP.i2d d)), .second, .val (.double (FP.i2d a)), .second, .val (.double (FP.i2d b)), .second, .unset] []))
    refine OwnEnds.st (fun t_ k_ => XS.dload X0.here hx rfl (hb hby d1_6) rfl k_) ?_
    show OwnEnds _ _ _ _ _ _ _ (s₁.setTop (mkF m 8 #[.val (.ref a1), .val (.double (FP.i2d d)), .second, .val (.double (FP.i2d a)), .second, .val (.double (FP.i2d b)), .second, .unset] [(.double (FP.i2d b))]))
    refine OwnEnds.st (fun t_ k_ => XS.dconst0 X0.here hx rfl (hb hby d1_8) rfl k_) ?_
    show OwnEnds _ _ _ _ _ _ _ (s₁.setTop (mkF m 9 #[.val (.ref a1), .val (.double (FP.i2d d)), .second, .val (.double (FP.i2d a)), .second, .val (.double (FP.i2d b)), .second, .unset] [(.double (0 : UInt64)), (.double (FP.i2d b))]))
    refine OwnEnds.st (fun t_ k_ => XS.dcmpS X0.here hx rfl (hb hby d1_9) rfl (own_cmp0 b) k_) ?_
    show OwnEnds _ _ _ _ _ _ _ (s₁.setTop (mkF m 10 #[.val (.ref a1), .val (.double (FP.i2d d)), .second, .val (.double (FP.i2d a)), .second, .val (.double (FP.i2d b)), .second, .unset] [(.int (lcmpW b.toInt64 0))]))
    by_cases hb1 : (0 : Int32) < b
    · refine OwnEnds.st (fun t_ k_ => XS.ifNo X0.here hx rfl (hb hby d1_10) rfl ((if0 _ _).trans (tlt (own_lcp hb1 : (0 : Int32) < (lcmpW b.toInt64 0))).2.2.2) k_) ?_
      show OwnEnds _ _ _ _ _ _ _ (s₁.setTop (mkF m 13 #[.val (.ref a1), .val (.double (FP.i2d d)), .second, .val (.double (FP.i2d a)), .second, .val (.double (FP.i2d b)), .second, .unset] []))
      refine OwnEnds.st (fun t_ k_ => XS.iconst X0.here hx rfl (hb hby d1_13) k_) ?_
      show OwnEnds _ _ _ _ _ _ _ (s₁.setTop (mkF m 14 #[.val (.ref a1), .val (.double (FP.i2d d)), .second, .val (.double (FP.i2d a)), .second, .val (.double (FP.i2d b)), .second, .unset] [(.int (1 : Int32))]))
      refine OwnEnds.st (fun t_ k_ => XS.goto X0.here hx rfl (pc0 := 14) (pc' := 18) rfl (hb hby d1_14) (by decide) (by decide) k_) ?_
      show OwnEnds _ _ _ _ _ _ _ (s₁.setTop (mkF m 18 #[.val (.ref a1), .val (.double (FP.i2d d)), .second, .val (.double (FP.i2d a)), .second, .val (.double (FP.i2d b)), .second, .unset] [(.int (1 : Int32))]))
      refine OwnEnds.st (fun t_ k_ => XS.istore X0.here hx rfl (hb hby d1_18) rfl (l' := #[.val (.ref a1), .val (.double (FP.i2d d)), .second, .val (.double (FP.i2d a)), .second, .val (.double (FP.i2d b)), .second, .val (.int (1 : Int32))]) rfl k_) ?_
      show OwnEnds _ _ _ _ _ _ _ (s₁.setTop (mkF m 20 #[.val (.ref a1), .val (.double (FP.i2d d)), .second, .val (.double (FP.i2d a)), .second, .val (.double (FP.i2d b)), .second, .val (.int (1 : Int32))] []))
      refine OwnEnds.st (fun t_ k_ => XS.aloadN X0.here hx rfl (hb hby d1_20) rfl rfl k_) ?_
      show OwnEnds _ _ _ _ _ _ _ (s₁.setTop (mkF m 21 #[.val (.ref a1), .val (.double (FP.i2d d)), .second, .val (.double (FP.i2d a)), .second, .val (.double (FP.i2d b)), .second, .val (.int (1 : Int32))] [(.ref a1)]))
      obtain ⟨cq1, kq1, q1a, q1b, q1c⟩ := isOf hZ e0 (E_a1)
      obtain ⟨_, _, ⟨T1, L1, k1, n1⟩, -, X1, ⟨Lc1, hQ1, l1, y1, z1⟩, st1⟩ := X0.virtualBackUp hx (x := (⟨"com/example/genius_loci/geniusloci/core/Similarity", "ordinal", "()I"⟩ : MethodName)) (y := (⟨"java/lang/Enum", "ordinal", "()I"⟩ : MethodName)) hown (mvT hZ (hw _ (List.mem_of_getElem? (i := 9) rfl))) (mvT hZ (hw _ (List.mem_of_getElem? (i := 10) rfl))) (mvT hZ (hw _ (List.mem_of_getElem? (i := 11) rfl))) (by decide) (mvT hZ (hw _ (List.mem_of_getElem? (i := 13) rfl))) (mvT hZ (hw _ (List.mem_of_getElem? (i := 12) rfl))) (backOf (W := 0) (rm2 l Z a0 hw [] a1 o h0 n0 Z0 F_o) hZ (hw _ (List.mem_of_getElem? (i := 15) rfl)) (hw _ (List.mem_of_getElem? (i := 14) rfl)) (by decide) (by decide)) q1a q1c (g := (mkF m 21 #[.val (.ref a1), .val (.double (FP.i2d d)), .second, .val (.double (FP.i2d a)), .second, .val (.double (FP.i2d b)), .second, .val (.int (1 : Int32))] [(.ref a1)])) rfl (by rw [hml]; rfl) (Steps.refl _) (argsL := []) (rest := []) (lenOf pd_0 rfl) rfl (by show 2 * 0 + _ ≤ _; exact Nat.le_of_eq rfl) (hb hby d1_21) (fun _ _ => ⟨rfl, e0, (by decide : 0 + 0 ≤ _), (by decide : 0 + 0 ≤ _)⟩)
      dsimp only [Pt.U, Pt.locs, Pt.cells, Pt.slots] at X1 l1 y1 z1 st1 hQ1
      subst l1 y1 z1
      obtain ⟨rfl, N1q, hh1⟩ := hQ1
      have N1 := Fr.app N0 N1q
      refine OwnEnds.go st1 ?_
      show OwnEnds _ _ _ _ _ _ _ (T1.setTop (mkF m 24 #[.val (.ref a1), .val (.double (FP.i2d d)), .second, .val (.double (FP.i2d a)), .second, .val (.double (FP.i2d b)), .second, .val (.int (1 : Int32))] [(.int o)]))
      rcases ho with ho | ho
      · refine OwnEnds.st (fun t k => X1.lookupswitchHit hx (g := (mkF m 24 #[.val (.ref a1), .val (.double (FP.i2d d)), .second, .val (.double (FP.i2d a)), .second, .val (.double (FP.i2d b)), .second, .val (.int (1 : Int32))] [(.int o)])) rfl rfl (hb hby d1_24) (by decide) (a := 0) (off := 38) (by rw [ho]; decide) (by show (0 : Int) ≤ ((24 : Nat) : Int) + _; decide) t k) ?_
        show OwnEnds _ _ _ _ _ _ _ (T1.setTop (mkF m 62 #[.val (.ref a1), .val (.double (FP.i2d d)), .second, .val (.double (FP.i2d a)), .second, .val (.double (FP.i2d b)), .second, .val (.int (1 : Int32))] []))
        refine OwnEnds.st (fun t_ k_ => XS.iload X1.here hx rfl (hb hby d1_62) rfl k_) ?_
        show OwnEnds _ _ _ _ _ _ _ (T1.setTop (mkF m 64 #[.val (.ref a1), .val (.double (FP.i2d d)), .second, .val (.double (FP.i2d a)), .second, .val (.double (FP.i2d b)), .second, .val (.int (1 : Int32))] [(.int (1 : Int32))]))
        refine OwnEnds.st (fun t_ k_ => XS.ifNo X1.here hx rfl (hb hby d1_64) rfl ((if0 _ _).trans (feq ((by decide) : ¬ ((1 : Int32) = (0 : Int32)))).1) k_) ?_
        show OwnEnds _ _ _ _ _ _ _ (T1.setTop (mkF m 67 #[.val (.ref a1), .val (.double (FP.i2d d)), .second, .val (.double (FP.i2d a)), .second, .val (.double (FP.i2d b)), .second, .val (.int (1 : Int32))] []))
        refine OwnEnds.st (fun t_ k_ => XS.dloadN X1.here hx rfl (hb hby d1_67) rfl k_) ?_
        show OwnEnds _ _ _ _ _ _ _ (T1.setTop (mkF m 68 #[.val (.ref a1), .val (.double (FP.i2d d)), .second, .val (.double (FP.i2d a)), .second, .val (.double (FP.i2d b)), .second, .val (.int (1 : Int32))] [(.double (FP.i2d d))]))
        refine OwnEnds.st (fun t_ k_ => XS.dloadN X1.here hx rfl (hb hby d1_68) rfl k_) ?_
        show OwnEnds _ _ _ _ _ _ _ (T1.setTop (mkF m 69 #[.val (.ref a1), .val (.double (FP.i2d d)), .second, .val (.double (FP.i2d a)), .second, .val (.double (FP.i2d b)), .second, .val (.int (1 : Int32))] [(.double (FP.i2d a)), (.double (FP.i2d d))]))
        refine OwnEnds.st (fun t_ k_ => XS.dload X1.here hx rfl (hb hby d1_69) rfl k_) ?_
        show OwnEnds _ _ _ _ _ _ _ (T1.setTop (mkF m 71 #[.val (.ref a1), .val (.double (FP.i2d d)), .second, .val (.double (FP.i2d a)), .second, .val (.double (FP.i2d b)), .second, .val (.int (1 : Int32))] [(.double (FP.i2d b)), (.double (FP.i2d a)), (.double (FP.i2d d))]))
        refine OwnEnds.st (fun t_ k_ => XS.dmulS X1.here hx rfl (hb hby d1_71) rfl (own_ab ha hb1 ha9 hb9).1 (own_ab ha hb1 ha9 hb9).2 k_) ?_
        show OwnEnds _ _ _ _ _ _ _ (T1.setTop (mkF m 72 #[.val (.ref a1), .val (.double (FP.i2d d)), .second, .val (.double (FP.i2d a)), .second, .val (.double (FP.i2d b)), .second, .val (.int (1 : Int32))] [(.double (FP.l2d (a.toInt64 * b.toInt64))), (.double (FP.i2d d))]))
        refine OwnEnds.st (fun t_ k_ => XS.ddivS X1.here hx rfl (hb hby d1_72) rfl (own_dv (by rw [(own_abI ha hb1 ha9 hb9).1]; exact (own_abI ha hb1 ha9 hb9).2.1) (by rw [(own_abI ha hb1 ha9 hb9).1]; exact (own_abI ha hb1 ha9 hb9).2.2)) rfl k_) ?_
        show OwnEnds _ _ _ _ _ _ _ (T1.setTop (mkF m 73 #[.val (.ref a1), .val (.double (FP.i2d d)), .second, .val (.double (FP.i2d a)), .second, .val (.double (FP.i2d b)), .second, .val (.int (1 : Int32))] [(.double (FP.ddiv (FP.i2d d) (FP.l2d (a.toInt64 * b.toInt64))))]))
        refine OwnEnds.st (fun t_ k_ => XS.goto X1.here hx rfl (pc0 := 73) (pc' := 81) rfl (hb hby d1_73) (by decide) (by decide) k_) ?_
        show OwnEnds _ _ _ _ _ _ _ (T1.setTop (mkF m 81 #[.val (.ref a1), .val (.double (FP.i2d d)), .second, .val (.double (FP.i2d a)), .second, .val (.double (FP.i2d b)), .second, .val (.int (1 : Int32))] [(.double (FP.ddiv (FP.i2d d) (FP.l2d (a.toInt64 * b.toInt64))))]))
        refine own_retD X1 hx Bd.returns Bd.notSynchronized (hb hby d1_81) ?_ (by decide) (by decide)
        show Q1 Z a1 o d a b h0 n0 _ T1.heap _
        rw [hh1]
        exact ⟨by rw [own_of0 ho ha hb1], N1, rfl⟩
      · refine OwnEnds.st (fun t k => X1.lookupswitchHit hx (g := (mkF m 24 #[.val (.ref a1), .val (.double (FP.i2d d)), .second, .val (.double (FP.i2d a)), .second, .val (.double (FP.i2d b)), .second, .val (.int (1 : Int32))] [(.int o)])) rfl rfl (hb hby d1_24) (by decide) (a := 1) (off := 56) (by rw [ho]; decide) (by show (0 : Int) ≤ ((24 : Nat) : Int) + _; decide) t k) ?_
        show OwnEnds _ _ _ _ _ _ _ (T1.setTop (mkF m 80 #[.val (.ref a1), .val (.double (FP.i2d d)), .second, .val (.double (FP.i2d a)), .second, .val (.double (FP.i2d b)), .second, .val (.int (1 : Int32))] []))
        refine OwnEnds.st (fun t_ k_ => XS.dloadN X1.here hx rfl (hb hby d1_80) rfl k_) ?_
        show OwnEnds _ _ _ _ _ _ _ (T1.setTop (mkF m 81 #[.val (.ref a1), .val (.double (FP.i2d d)), .second, .val (.double (FP.i2d a)), .second, .val (.double (FP.i2d b)), .second, .val (.int (1 : Int32))] [(.double (FP.i2d d))]))
        refine own_retD X1 hx Bd.returns Bd.notSynchronized (hb hby d1_81) ?_ (by decide) (by decide)
        show Q1 Z a1 o d a b h0 n0 _ T1.heap _
        rw [hh1]
        exact ⟨by rw [own_of1 ho], N1, rfl⟩
    · refine OwnEnds.st (fun t_ k_ => XS.ifYes X0.here hx rfl (pc0 := 10) (pc' := 17) rfl (hb hby d1_10) rfl ((if0 _ _).trans (flt (own_lcn hb1 : ¬ ((0 : Int32) < (lcmpW b.toInt64 0)))).2.2.2) (by decide) (by decide) k_) ?_
      show OwnEnds _ _ _ _ _ _ _ (s₁.setTop (mkF m 17 #[.val (.ref a1), .val (.double (FP.i2d d)), .second, .val (.double (FP.i2d a)), .second, .val (.double (FP.i2d b)), .second, .unset] []))
      refine OwnEnds.st (fun t_ k_ => XS.iconst X0.here hx rfl (hb hby d1_17) k_) ?_
      show OwnEnds _ _ _ _ _ _ _ (s₁.setTop (mkF m 18 #[.val (.ref a1), .val (.double (FP.i2d d)), .second, .val (.double (FP.i2d a)), .second, .val (.double (FP.i2d b)), .second, .unset] [(.int (0 : Int32))]))
      refine OwnEnds.st (fun t_ k_ => XS.istore X0.here hx rfl (hb hby d1_18) rfl (l' := #[.val (.ref a1), .val (.double (FP.i2d d)), .second, .val (.double (FP.i2d a)), .second, .val (.double (FP.i2d b)), .second, .val (.int (0 : Int32))]) rfl k_) ?_
      show OwnEnds _ _ _ _ _ _ _ (s₁.setTop (mkF m 20 #[.val (.ref a1), .val (.double (FP.i2d d)), .second, .val (.double (FP.i2d a)), .second, .val (.double (FP.i2d b)), .second, .val (.int (0 : Int32))] []))
      refine OwnEnds.st (fun t_ k_ => XS.aloadN X0.here hx rfl (hb hby d1_20) rfl rfl k_) ?_
      show OwnEnds _ _ _ _ _ _ _ (s₁.setTop (mkF m 21 #[.val (.ref a1), .val (.double (FP.i2d d)), .second, .val (.double (FP.i2d a)), .second, .val (.double (FP.i2d b)), .second, .val (.int (0 : Int32))] [(.ref a1)]))
      obtain ⟨cq2, kq2, q2a, q2b, q2c⟩ := isOf hZ e0 (E_a1)
      obtain ⟨_, _, ⟨T2, L2, k2, n2⟩, -, X2, ⟨Lc2, hQ2, l2, y2, z2⟩, st2⟩ := X0.virtualBackUp hx (x := (⟨"com/example/genius_loci/geniusloci/core/Similarity", "ordinal", "()I"⟩ : MethodName)) (y := (⟨"java/lang/Enum", "ordinal", "()I"⟩ : MethodName)) hown (mvT hZ (hw _ (List.mem_of_getElem? (i := 9) rfl))) (mvT hZ (hw _ (List.mem_of_getElem? (i := 10) rfl))) (mvT hZ (hw _ (List.mem_of_getElem? (i := 11) rfl))) (by decide) (mvT hZ (hw _ (List.mem_of_getElem? (i := 13) rfl))) (mvT hZ (hw _ (List.mem_of_getElem? (i := 12) rfl))) (backOf (W := 0) (rm2 l Z a0 hw [] a1 o h0 n0 Z0 F_o) hZ (hw _ (List.mem_of_getElem? (i := 15) rfl)) (hw _ (List.mem_of_getElem? (i := 14) rfl)) (by decide) (by decide)) q2a q2c (g := (mkF m 21 #[.val (.ref a1), .val (.double (FP.i2d d)), .second, .val (.double (FP.i2d a)), .second, .val (.double (FP.i2d b)), .second, .val (.int (0 : Int32))] [(.ref a1)])) rfl (by rw [hml]; rfl) (Steps.refl _) (argsL := []) (rest := []) (lenOf pd_0 rfl) rfl (by show 2 * 0 + _ ≤ _; exact Nat.le_of_eq rfl) (hb hby d1_21) (fun _ _ => ⟨rfl, e0, (by decide : 0 + 0 ≤ _), (by decide : 0 + 0 ≤ _)⟩)
      dsimp only [Pt.U, Pt.locs, Pt.cells, Pt.slots] at X2 l2 y2 z2 st2 hQ2
      subst l2 y2 z2
      obtain ⟨rfl, N2q, hh2⟩ := hQ2
      have N2 := Fr.app N0 N2q
      refine OwnEnds.go st2 ?_
      show OwnEnds _ _ _ _ _ _ _ (T2.setTop (mkF m 24 #[.val (.ref a1), .val (.double (FP.i2d d)), .second, .val (.double (FP.i2d a)), .second, .val (.double (FP.i2d b)), .second, .val (.int (0 : Int32))] [(.int o)]))
      rcases ho with ho | ho
      · refine OwnEnds.st (fun t k => X2.lookupswitchHit hx (g := (mkF m 24 #[.val (.ref a1), .val (.double (FP.i2d d)), .second, .val (.double (FP.i2d a)), .second, .val (.double (FP.i2d b)), .second, .val (.int (0 : Int32))] [(.int o)])) rfl rfl (hb hby d1_24) (by decide) (a := 0) (off := 38) (by rw [ho]; decide) (by show (0 : Int) ≤ ((24 : Nat) : Int) + _; decide) t k) ?_
        show OwnEnds _ _ _ _ _ _ _ (T2.setTop (mkF m 62 #[.val (.ref a1), .val (.double (FP.i2d d)), .second, .val (.double (FP.i2d a)), .second, .val (.double (FP.i2d b)), .second, .val (.int (0 : Int32))] []))
        refine OwnEnds.st (fun t_ k_ => XS.iload X2.here hx rfl (hb hby d1_62) rfl k_) ?_
        show OwnEnds _ _ _ _ _ _ _ (T2.setTop (mkF m 64 #[.val (.ref a1), .val (.double (FP.i2d d)), .second, .val (.double (FP.i2d a)), .second, .val (.double (FP.i2d b)), .second, .val (.int (0 : Int32))] [(.int (0 : Int32))]))
        refine OwnEnds.st (fun t_ k_ => XS.ifYes X2.here hx rfl (pc0 := 64) (pc' := 76) rfl (hb hby d1_64) rfl ((if0 _ _).trans (teq (rfl : (0 : Int32) = (0 : Int32))).1) (by decide) (by decide) k_) ?_
        show OwnEnds _ _ _ _ _ _ _ (T2.setTop (mkF m 76 #[.val (.ref a1), .val (.double (FP.i2d d)), .second, .val (.double (FP.i2d a)), .second, .val (.double (FP.i2d b)), .second, .val (.int (0 : Int32))] []))
        refine OwnEnds.st (fun t_ k_ => XS.dconst0 X2.here hx rfl (hb hby d1_76) rfl k_) ?_
        show OwnEnds _ _ _ _ _ _ _ (T2.setTop (mkF m 77 #[.val (.ref a1), .val (.double (FP.i2d d)), .second, .val (.double (FP.i2d a)), .second, .val (.double (FP.i2d b)), .second, .val (.int (0 : Int32))] [(.double (0 : UInt64))]))
        refine OwnEnds.st (fun t_ k_ => XS.goto X2.here hx rfl (pc0 := 77) (pc' := 81) rfl (hb hby d1_77) (by decide) (by decide) k_) ?_
        show OwnEnds _ _ _ _ _ _ _ (T2.setTop (mkF m 81 #[.val (.ref a1), .val (.double (FP.i2d d)), .second, .val (.double (FP.i2d a)), .second, .val (.double (FP.i2d b)), .second, .val (.int (0 : Int32))] [(.double (0 : UInt64))]))
        refine own_retD X2 hx Bd.returns Bd.notSynchronized (hb hby d1_81) ?_ (by decide) (by decide)
        show Q1 Z a1 o d a b h0 n0 _ T2.heap _
        rw [hh2]
        exact ⟨by rw [own_ofz ho (fun q => hb1 q.2)], N2, rfl⟩
      · refine OwnEnds.st (fun t k => X2.lookupswitchHit hx (g := (mkF m 24 #[.val (.ref a1), .val (.double (FP.i2d d)), .second, .val (.double (FP.i2d a)), .second, .val (.double (FP.i2d b)), .second, .val (.int (0 : Int32))] [(.int o)])) rfl rfl (hb hby d1_24) (by decide) (a := 1) (off := 56) (by rw [ho]; decide) (by show (0 : Int) ≤ ((24 : Nat) : Int) + _; decide) t k) ?_
        show OwnEnds _ _ _ _ _ _ _ (T2.setTop (mkF m 80 #[.val (.ref a1), .val (.double (FP.i2d d)), .second, .val (.double (FP.i2d a)), .second, .val (.double (FP.i2d b)), .second, .val (.int (0 : Int32))] []))
        refine OwnEnds.st (fun t_ k_ => XS.dloadN X2.here hx rfl (hb hby d1_80) rfl k_) ?_
        show OwnEnds _ _ _ _ _ _ _ (T2.setTop (mkF m 81 #[.val (.ref a1), .val (.double (FP.i2d d)), .second, .val (.double (FP.i2d a)), .second, .val (.double (FP.i2d b)), .second, .val (.int (0 : Int32))] [(.double (FP.i2d d))]))
        refine own_retD X2 hx Bd.returns Bd.notSynchronized (hb hby d1_81) ?_ (by decide) (by decide)
        show Q1 Z a1 o d a b h0 n0 _ T2.heap _
        rw [hh2]
        exact ⟨by rw [own_of1 ho], N2, rfl⟩
  · refine OwnEnds.st (fun t_ k_ => XS.ifYes X0.here hx rfl (pc0 := 3) (pc' := 17) rfl (hb hby d1_3) rfl ((if0 _ _).trans (flt (own_lcn ha : ¬ ((0 : Int32) < (lcmpW a.toInt64 0)))).2.2.2) (by decide) (by decide) k_) ?_
    show OwnEnds _ _ _ _ _ _ _ (s₁.setTop (mkF m 17 #[.val (.ref a1), .val (.double (FP.i2d d)), .second, .val (.double (FP.i2d a)), .second, .val (.double (FP.i2d b)), .second, .unset] []))
    refine OwnEnds.st (fun t_ k_ => XS.iconst X0.here hx rfl (hb hby d1_17) k_) ?_
    show OwnEnds _ _ _ _ _ _ _ (s₁.setTop (mkF m 18 #[.val (.ref a1), .val (.double (FP.i2d d)), .second, .val (.double (FP.i2d a)), .second, .val (.double (FP.i2d b)), .second, .unset] [(.int (0 : Int32))]))
    refine OwnEnds.st (fun t_ k_ => XS.istore X0.here hx rfl (hb hby d1_18) rfl (l' := #[.val (.ref a1), .val (.double (FP.i2d d)), .second, .val (.double (FP.i2d a)), .second, .val (.double (FP.i2d b)), .second, .val (.int (0 : Int32))]) rfl k_) ?_
    show OwnEnds _ _ _ _ _ _ _ (s₁.setTop (mkF m 20 #[.val (.ref a1), .val (.double (FP.i2d d)), .second, .val (.double (FP.i2d a)), .second, .val (.double (FP.i2d b)), .second, .val (.int (0 : Int32))] []))
    refine OwnEnds.st (fun t_ k_ => XS.aloadN X0.here hx rfl (hb hby d1_20) rfl rfl k_) ?_
    show OwnEnds _ _ _ _ _ _ _ (s₁.setTop (mkF m 21 #[.val (.ref a1), .val (.double (FP.i2d d)), .second, .val (.double (FP.i2d a)), .second, .val (.double (FP.i2d b)), .second, .val (.int (0 : Int32))] [(.ref a1)]))
    obtain ⟨cq3, kq3, q3a, q3b, q3c⟩ := isOf hZ e0 (E_a1)
    obtain ⟨_, _, ⟨T3, L3, k3, n3⟩, -, X3, ⟨Lc3, hQ3, l3, y3, z3⟩, st3⟩ := X0.virtualBackUp hx (x := (⟨"com/example/genius_loci/geniusloci/core/Similarity", "ordinal", "()I"⟩ : MethodName)) (y := (⟨"java/lang/Enum", "ordinal", "()I"⟩ : MethodName)) hown (mvT hZ (hw _ (List.mem_of_getElem? (i := 9) rfl))) (mvT hZ (hw _ (List.mem_of_getElem? (i := 10) rfl))) (mvT hZ (hw _ (List.mem_of_getElem? (i := 11) rfl))) (by decide) (mvT hZ (hw _ (List.mem_of_getElem? (i := 13) rfl))) (mvT hZ (hw _ (List.mem_of_getElem? (i := 12) rfl))) (backOf (W := 0) (rm2 l Z a0 hw [] a1 o h0 n0 Z0 F_o) hZ (hw _ (List.mem_of_getElem? (i := 15) rfl)) (hw _ (List.mem_of_getElem? (i := 14) rfl)) (by decide) (by decide)) q3a q3c (g := (mkF m 21 #[.val (.ref a1), .val (.double (FP.i2d d)), .second, .val (.double (FP.i2d a)), .second, .val (.double (FP.i2d b)), .second, .val (.int (0 : Int32))] [(.ref a1)])) rfl (by rw [hml]; rfl) (Steps.refl _) (argsL := []) (rest := []) (lenOf pd_0 rfl) rfl (by show 2 * 0 + _ ≤ _; exact Nat.le_of_eq rfl) (hb hby d1_21) (fun _ _ => ⟨rfl, e0, (by decide : 0 + 0 ≤ _), (by decide : 0 + 0 ≤ _)⟩)
    dsimp only [Pt.U, Pt.locs, Pt.cells, Pt.slots] at X3 l3 y3 z3 st3 hQ3
    subst l3 y3 z3
    obtain ⟨rfl, N3q, hh3⟩ := hQ3
    have N3 := Fr.app N0 N3q
    refine OwnEnds.go st3 ?_
    show OwnEnds _ _ _ _ _ _ _ (T3.setTop (mkF m 24 #[.val (.ref a1), .val (.double (FP.i2d d)), .second, .val (.double (FP.i2d a)), .second, .val (.double (FP.i2d b)), .second, .val (.int (0 : Int32))] [(.int o)]))
    rcases ho with ho | ho
    · refine OwnEnds.st (fun t k => X3.lookupswitchHit hx (g := (mkF m 24 #[.val (.ref a1), .val (.double (FP.i2d d)), .second, .val (.double (FP.i2d a)), .second, .val (.double (FP.i2d b)), .second, .val (.int (0 : Int32))] [(.int o)])) rfl rfl (hb hby d1_24) (by decide) (a := 0) (off := 38) (by rw [ho]; decide) (by show (0 : Int) ≤ ((24 : Nat) : Int) + _; decide) t k) ?_
      show OwnEnds _ _ _ _ _ _ _ (T3.setTop (mkF m 62 #[.val (.ref a1), .val (.double (FP.i2d d)), .second, .val (.double (FP.i2d a)), .second, .val (.double (FP.i2d b)), .second, .val (.int (0 : Int32))] []))
      refine OwnEnds.st (fun t_ k_ => XS.iload X3.here hx rfl (hb hby d1_62) rfl k_) ?_
      show OwnEnds _ _ _ _ _ _ _ (T3.setTop (mkF m 64 #[.val (.ref a1), .val (.double (FP.i2d d)), .second, .val (.double (FP.i2d a)), .second, .val (.double (FP.i2d b)), .second, .val (.int (0 : Int32))] [(.int (0 : Int32))]))
      refine OwnEnds.st (fun t_ k_ => XS.ifYes X3.here hx rfl (pc0 := 64) (pc' := 76) rfl (hb hby d1_64) rfl ((if0 _ _).trans (teq (rfl : (0 : Int32) = (0 : Int32))).1) (by decide) (by decide) k_) ?_
      show OwnEnds _ _ _ _ _ _ _ (T3.setTop (mkF m 76 #[.val (.ref a1), .val (.double (FP.i2d d)), .second, .val (.double (FP.i2d a)), .second, .val (.double (FP.i2d b)), .second, .val (.int (0 : Int32))] []))
      refine OwnEnds.st (fun t_ k_ => XS.dconst0 X3.here hx rfl (hb hby d1_76) rfl k_) ?_
      show OwnEnds _ _ _ _ _ _ _ (T3.setTop (mkF m 77 #[.val (.ref a1), .val (.double (FP.i2d d)), .second, .val (.double (FP.i2d a)), .second, .val (.double (FP.i2d b)), .second, .val (.int (0 : Int32))] [(.double (0 : UInt64))]))
      refine OwnEnds.st (fun t_ k_ => XS.goto X3.here hx rfl (pc0 := 77) (pc' := 81) rfl (hb hby d1_77) (by decide) (by decide) k_) ?_
      show OwnEnds _ _ _ _ _ _ _ (T3.setTop (mkF m 81 #[.val (.ref a1), .val (.double (FP.i2d d)), .second, .val (.double (FP.i2d a)), .second, .val (.double (FP.i2d b)), .second, .val (.int (0 : Int32))] [(.double (0 : UInt64))]))
      refine own_retD X3 hx Bd.returns Bd.notSynchronized (hb hby d1_81) ?_ (by decide) (by decide)
      show Q1 Z a1 o d a b h0 n0 _ T3.heap _
      rw [hh3]
      exact ⟨by rw [own_ofz ho (fun q => ha q.1)], N3, rfl⟩
    · refine OwnEnds.st (fun t k => X3.lookupswitchHit hx (g := (mkF m 24 #[.val (.ref a1), .val (.double (FP.i2d d)), .second, .val (.double (FP.i2d a)), .second, .val (.double (FP.i2d b)), .second, .val (.int (0 : Int32))] [(.int o)])) rfl rfl (hb hby d1_24) (by decide) (a := 1) (off := 56) (by rw [ho]; decide) (by show (0 : Int) ≤ ((24 : Nat) : Int) + _; decide) t k) ?_
      show OwnEnds _ _ _ _ _ _ _ (T3.setTop (mkF m 80 #[.val (.ref a1), .val (.double (FP.i2d d)), .second, .val (.double (FP.i2d a)), .second, .val (.double (FP.i2d b)), .second, .val (.int (0 : Int32))] []))
      refine OwnEnds.st (fun t_ k_ => XS.dloadN X3.here hx rfl (hb hby d1_80) rfl k_) ?_
      show OwnEnds _ _ _ _ _ _ _ (T3.setTop (mkF m 81 #[.val (.ref a1), .val (.double (FP.i2d d)), .second, .val (.double (FP.i2d a)), .second, .val (.double (FP.i2d b)), .second, .val (.int (0 : Int32))] [(.double (FP.i2d d))]))
      refine own_retD X3 hx Bd.returns Bd.notSynchronized (hb hby d1_81) ?_ (by decide) (by decide)
      show Q1 Z a1 o d a b h0 n0 _ T3.heap _
      rw [hh3]
      exact ⟨by rw [own_of1 ho], N3, rfl⟩
theorem ef_0 (m : MethodId) (x0 : Int32) (x1 : Int32) (x2 : Int32) (x3 : Int32) (x4 : Int32) : entryFrame m #[(.int x0), (.int x1), (.int x2), (.int x3), (.int x4)] maxLocals = mkF m 0 #[.val (.int x0), .val (.int x1), .val (.int x2), .val (.int x3), .val (.int x4), .unset, .unset, .unset, .unset, .unset, .unset, .unset, .unset, .unset, .unset, .unset] [] := by first | (simp [entryFrame, mkF, argsToLocals, Value.category, maxLocals]; done) | rfl
def Q0 (Z : State) (p1 : Int32) (p2 : Int32) (p3 : Int32) (p4 : Int32) (p5 : Int32) (c1 : Addr) (d1 : Addr) (h0 : Heap) (n0 : Nat) (v : Option Value) (h : Heap) (L : List Loc) : Prop := v = some (.int 1) ∧ Fr n0 L
set_option maxRecDepth 65536 in
set_option maxHeartbeats 40000000 in
theorem rm0 (l : Launch) (Z : State) (a0 : Array Value) (hw : ∀ d ∈ tables_1, d.before a0 Z = true) (ws : List Jvm.Cond) (p1 : Int32) (p2 : Int32) (p3 : Int32) (p4 : Int32) (p5 : Int32) (c1 : Addr) (d1 : Addr) (h0 : Heap) (n0 : Nat) (Z0 : n0 ≤ h0.size) (S_c : Sta Z h0 "com/example/genius_loci/geniusloci/core/Similarity" "COSINE" "Lcom/example/genius_loci/geniusloci/core/Similarity;" (.ref c1)) (S_d : Sta Z h0 "com/example/genius_loci/geniusloci/core/Similarity" "DOT" "Lcom/example/genius_loci/geniusloci/core/Similarity;" (.ref d1)) (E_c1 : Exa Z h0 c1 "com/example/genius_loci/geniusloci/core/Similarity") (E_d1 : Exa Z h0 d1 "com/example/genius_loci/geniusloci/core/Similarity") (F_c1 : Fld Z h0 c1 "java/lang/Enum" "ordinal" "I" (.int 0)) (F_d1 : Fld Z h0 d1 "java/lang/Enum" "ordinal" "I" (.int 1)) (hne : ¬ (c1 = d1)) :
    MetFree l x (head1 (Jvm.Cond.code x code maxLocals ret :: ws) room_1) (fun ar_ U_ => ar_ = #[(.int p1), (.int p2), (.int p3), (.int p4), (.int p5)] ∧ Z.Warmed39 U_.vm ∧ U_.heap = h0) (fun _ _ _ _ _ => True) (fun _ U_ oc_ Ue_ => ∃ v_ L_, oc_ = .returned v_ ∧ Q0 Z p1 p2 p3 p4 p5 c1 d1 h0 n0 v_ Ue_.heap L_ ∧ FrameEnd U_ oc_ Ue_ L_ room_1.cells room_1.slots) := by
  refine MetFree.of_bodySF (plainFor_of_name pn_2) hisR ?_
  intro p e s m args below meth c s₁ Bd hml0 hP hK
  obtain ⟨rfl, hZ, hh⟩ := hP
  have hx := Bd.exec
  have hby := Bd.bytes
  have hml : c.maxLocals = 16 := hml0
  have hown : s.vm.findClass "com/example/genius_loci/geniusloci/core/SimilarityOfPinLaw" = some m.cls := findClass_of_methodNamed Bd.named
  have hnm := (name_of_methodNamed Bd.named Bd.method).1
  have X0 : Stand p l e room_1 s m #[(.int p1), (.int p2), (.int p3), (.int p4), (.int p5)] below meth c s₁ [] 0 0 := Stand.of_body Bd
  have e0 : s₁.heap = h0 := by rw [← hh, Bd.state]; rfl
  have N0 := Fr.nil n0
  show OwnEnds p e below s (Q0 Z p1 p2 p3 p4 p5 c1 d1 h0 n0) room_1.cells room_1.slots (s₁.setTop (entryFrame m #[(.int p1), (.int p2), (.int p3), (.int p4), (.int p5)] maxLocals))
  rw [ef_0]
  show OwnEnds _ _ _ _ _ _ _ (s₁.setTop (mkF m 0 #[.val (.int p1), .val (.int p2), .val (.int p3), .val (.int p4), .val (.int p5), .unset, .unset, .unset, .unset, .unset, .unset, .unset, .unset, .unset, .unset, .unset] []))
  refine OwnEnds.st (fun t_ k_ => XS.iloadN X0.here hx rfl (hb hby at_0) rfl k_) ?_
  show OwnEnds _ _ _ _ _ _ _ (s₁.setTop (mkF m 1 #[.val (.int p1), .val (.int p2), .val (.int p3), .val (.int p4), .val (.int p5), .unset, .unset, .unset, .unset, .unset, .unset, .unset, .unset, .unset, .unset, .unset] [(.int p1)]))
  refine OwnEnds.st (fun t_ k_ => XS.iconst X0.here hx rfl (hb hby at_1) k_) ?_
  show OwnEnds _ _ _ _ _ _ _ (s₁.setTop (mkF m 2 #[.val (.int p1), .val (.int p2), .val (.int p3), .val (.int p4), .val (.int p5), .unset, .unset, .unset, .unset, .unset, .unset, .unset, .unset, .unset, .unset, .unset] [(.int (1 : Int32)), (.int p1)]))
  refine OwnEnds.st (fun t_ k_ => XS.iand X0.here hx rfl (hb hby at_2) rfl k_) ?_
  show OwnEnds _ _ _ _ _ _ _ (s₁.setTop (mkF m 3 #[.val (.int p1), .val (.int p2), .val (.int p3), .val (.int p4), .val (.int p5), .unset, .unset, .unset, .unset, .unset, .unset, .unset, .unset, .unset, .unset, .unset] [(.int (p1 &&& (1 : Int32)))]))
  by_cases hs1 : (p1 &&& (1 : Int32)) = (0 : Int32)
  · refine OwnEnds.st (fun t_ k_ => XS.ifNo X0.here hx rfl (hb hby at_3) rfl ((if0 _ _).trans (teq (hs1 : (p1 &&& (1 : Int32)) = (0 : Int32))).2) k_) ?_
    show OwnEnds _ _ _ _ _ _ _ (s₁.setTop (mkF m 6 #[.val (.int p1), .val (.int p2), .val (.int p3), .val (.int p4), .val (.int p5), .unset, .unset, .unset, .unset, .unset, .unset, .unset, .unset, .unset, .unset, .unset] []))
    obtain ⟨T1, X1, e1, st1⟩ := getS2 X0 hx hZ hown (host := "") (Or.inl (hw _ (List.mem_of_getElem? (i := 0) rfl))) Via.refl e0 S_c (g := (mkF m 6 #[.val (.int p1), .val (.int p2), .val (.int p3), .val (.int p4), .val (.int p5), .unset, .unset, .unset, .unset, .unset, .unset, .unset, .unset, .unset, .unset, .unset] [])) rfl (hb hby at_6)
    refine OwnEnds.st st1 ?_
    show OwnEnds _ _ _ _ _ _ _ (T1.setTop (mkF m 9 #[.val (.int p1), .val (.int p2), .val (.int p3), .val (.int p4), .val (.int p5), .unset, .unset, .unset, .unset, .unset, .unset, .unset, .unset, .unset, .unset, .unset] [(.ref c1)]))
    refine OwnEnds.st (fun t_ k_ => XS.goto X1.here hx rfl (pc0 := 9) (pc' := 15) rfl (hb hby at_9) (by decide) (by decide) k_) ?_
    show OwnEnds _ _ _ _ _ _ _ (T1.setTop (mkF m 15 #[.val (.int p1), .val (.int p2), .val (.int p3), .val (.int p4), .val (.int p5), .unset, .unset, .unset, .unset, .unset, .unset, .unset, .unset, .unset, .unset, .unset] [(.ref c1)]))
    refine OwnEnds.st (fun t_ k_ => XS.astore X1.here hx rfl (hb hby at_15) rfl rfl (l' := #[.val (.int p1), .val (.int p2), .val (.int p3), .val (.int p4), .val (.int p5), .val (.ref c1), .unset, .unset, .unset, .unset, .unset, .unset, .unset, .unset, .unset, .unset]) rfl k_) ?_
    show OwnEnds _ _ _ _ _ _ _ (T1.setTop (mkF m 17 #[.val (.int p1), .val (.int p2), .val (.int p3), .val (.int p4), .val (.int p5), .val (.ref c1), .unset, .unset, .unset, .unset, .unset, .unset, .unset, .unset, .unset, .unset] []))
    refine OwnEnds.st (fun t_ k_ => XS.iloadN X1.here hx rfl (hb hby at_17) rfl k_) ?_
    show OwnEnds _ _ _ _ _ _ _ (T1.setTop (mkF m 18 #[.val (.int p1), .val (.int p2), .val (.int p3), .val (.int p4), .val (.int p5), .val (.ref c1), .unset, .unset, .unset, .unset, .unset, .unset, .unset, .unset, .unset, .unset] [(.int p1)]))
    refine OwnEnds.st (fun t_ k_ => XS.iconst X1.here hx rfl (hb hby at_18) k_) ?_
    show OwnEnds _ _ _ _ _ _ _ (T1.setTop (mkF m 19 #[.val (.int p1), .val (.int p2), .val (.int p3), .val (.int p4), .val (.int p5), .val (.ref c1), .unset, .unset, .unset, .unset, .unset, .unset, .unset, .unset, .unset, .unset] [(.int (2 : Int32)), (.int p1)]))
    refine OwnEnds.st (fun t_ k_ => XS.iand X1.here hx rfl (hb hby at_19) rfl k_) ?_
    show OwnEnds _ _ _ _ _ _ _ (T1.setTop (mkF m 20 #[.val (.int p1), .val (.int p2), .val (.int p3), .val (.int p4), .val (.int p5), .val (.ref c1), .unset, .unset, .unset, .unset, .unset, .unset, .unset, .unset, .unset, .unset] [(.int (p1 &&& (2 : Int32)))]))
    by_cases hs2 : (p1 &&& (2 : Int32)) = (0 : Int32)
    · refine OwnEnds.st (fun t_ k_ => XS.ifYes X1.here hx rfl (pc0 := 20) (pc' := 27) rfl (hb hby at_20) rfl ((if0 _ _).trans (teq (hs2 : (p1 &&& (2 : Int32)) = (0 : Int32))).1) (by decide) (by decide) k_) ?_
      show OwnEnds _ _ _ _ _ _ _ (T1.setTop (mkF m 27 #[.val (.int p1), .val (.int p2), .val (.int p3), .val (.int p4), .val (.int p5), .val (.ref c1), .unset, .unset, .unset, .unset, .unset, .unset, .unset, .unset, .unset, .unset] []))
      refine OwnEnds.st (fun t_ k_ => XS.iconst X1.here hx rfl (hb hby at_27) k_) ?_
      show OwnEnds _ _ _ _ _ _ _ (T1.setTop (mkF m 28 #[.val (.int p1), .val (.int p2), .val (.int p3), .val (.int p4), .val (.int p5), .val (.ref c1), .unset, .unset, .unset, .unset, .unset, .unset, .unset, .unset, .unset, .unset] [(.int (0 : Int32))]))
      refine OwnEnds.st (fun t_ k_ => XS.istore X1.here hx rfl (hb hby at_28) rfl (l' := #[.val (.int p1), .val (.int p2), .val (.int p3), .val (.int p4), .val (.int p5), .val (.ref c1), .val (.int (0 : Int32)), .unset, .unset, .unset, .unset, .unset, .unset, .unset, .unset, .unset]) rfl k_) ?_
      show OwnEnds _ _ _ _ _ _ _ (T1.setTop (mkF m 30 #[.val (.int p1), .val (.int p2), .val (.int p3), .val (.int p4), .val (.int p5), .val (.ref c1), .val (.int (0 : Int32)), .unset, .unset, .unset, .unset, .unset, .unset, .unset, .unset, .unset] []))
      refine OwnEnds.st (fun t_ k_ => XS.iloadN X1.here hx rfl (hb hby at_30) rfl k_) ?_
      show OwnEnds _ _ _ _ _ _ _ (T1.setTop (mkF m 31 #[.val (.int p1), .val (.int p2), .val (.int p3), .val (.int p4), .val (.int p5), .val (.ref c1), .val (.int (0 : Int32)), .unset, .unset, .unset, .unset, .unset, .unset, .unset, .unset, .unset] [(.int p3)]))
      refine OwnEnds.st (fun t_ k_ => XS.bipush X1.here hx rfl (hb hby at_31) k_) ?_
      show OwnEnds _ _ _ _ _ _ _ (T1.setTop (mkF m 33 #[.val (.int p1), .val (.int p2), .val (.int p3), .val (.int p4), .val (.int p5), .val (.ref c1), .val (.int (0 : Int32)), .unset, .unset, .unset, .unset, .unset, .unset, .unset, .unset, .unset] [(.int (9 : Int32)), (.int p3)]))
      refine OwnEnds.st (fun t_ k_ => iremM X1 hx rfl (hb hby at_33) rfl (by decide) k_) ?_
      show OwnEnds _ _ _ _ _ _ _ (T1.setTop (mkF m 34 #[.val (.int p1), .val (.int p2), .val (.int p3), .val (.int p4), .val (.int p5), .val (.ref c1), .val (.int (0 : Int32)), .unset, .unset, .unset, .unset, .unset, .unset, .unset, .unset, .unset] [(.int (p3 % (9 : Int32)))]))
      refine OwnEnds.st (fun t_ k_ => XS.istore X1.here hx rfl (hb hby at_34) rfl (l' := #[.val (.int p1), .val (.int p2), .val (.int p3), .val (.int p4), .val (.int p5), .val (.ref c1), .val (.int (0 : Int32)), .val (.int (p3 % (9 : Int32))), .unset, .unset, .unset, .unset, .unset, .unset, .unset, .unset]) rfl k_) ?_
      show OwnEnds _ _ _ _ _ _ _ (T1.setTop (mkF m 36 #[.val (.int p1), .val (.int p2), .val (.int p3), .val (.int p4), .val (.int p5), .val (.ref c1), .val (.int (0 : Int32)), .val (.int (p3 % (9 : Int32))), .unset, .unset, .unset, .unset, .unset, .unset, .unset, .unset] []))
      refine OwnEnds.st (fun t_ k_ => XS.iloadN X1.here hx rfl (hb hby at_36) rfl k_) ?_
      show OwnEnds _ _ _ _ _ _ _ (T1.setTop (mkF m 37 #[.val (.int p1), .val (.int p2), .val (.int p3), .val (.int p4), .val (.int p5), .val (.ref c1), .val (.int (0 : Int32)), .val (.int (p3 % (9 : Int32))), .unset, .unset, .unset, .unset, .unset, .unset, .unset, .unset] [(.int p4)]))
      refine OwnEnds.st (fun t_ k_ => XS.bipush X1.here hx rfl (hb hby at_37) k_) ?_
      show OwnEnds _ _ _ _ _ _ _ (T1.setTop (mkF m 39 #[.val (.int p1), .val (.int p2), .val (.int p3), .val (.int p4), .val (.int p5), .val (.ref c1), .val (.int (0 : Int32)), .val (.int (p3 % (9 : Int32))), .unset, .unset, .unset, .unset, .unset, .unset, .unset, .unset] [(.int (9 : Int32)), (.int p4)]))
      refine OwnEnds.st (fun t_ k_ => iremM X1 hx rfl (hb hby at_39) rfl (by decide) k_) ?_
      show OwnEnds _ _ _ _ _ _ _ (T1.setTop (mkF m 40 #[.val (.int p1), .val (.int p2), .val (.int p3), .val (.int p4), .val (.int p5), .val (.ref c1), .val (.int (0 : Int32)), .val (.int (p3 % (9 : Int32))), .unset, .unset, .unset, .unset, .unset, .unset, .unset, .unset] [(.int (p4 % (9 : Int32)))]))
      refine OwnEnds.st (fun t_ k_ => XS.istore X1.here hx rfl (hb hby at_40) rfl (l' := #[.val (.int p1), .val (.int p2), .val (.int p3), .val (.int p4), .val (.int p5), .val (.ref c1), .val (.int (0 : Int32)), .val (.int (p3 % (9 : Int32))), .val (.int (p4 % (9 : Int32))), .unset, .unset, .unset, .unset, .unset, .unset, .unset]) rfl k_) ?_
      show OwnEnds _ _ _ _ _ _ _ (T1.setTop (mkF m 42 #[.val (.int p1), .val (.int p2), .val (.int p3), .val (.int p4), .val (.int p5), .val (.ref c1), .val (.int (0 : Int32)), .val (.int (p3 % (9 : Int32))), .val (.int (p4 % (9 : Int32))), .unset, .unset, .unset, .unset, .unset, .unset, .unset] []))
      refine OwnEnds.st (fun t_ k_ => XS.iloadN X1.here hx rfl (hb hby at_42) rfl k_) ?_
      show OwnEnds _ _ _ _ _ _ _ (T1.setTop (mkF m 43 #[.val (.int p1), .val (.int p2), .val (.int p3), .val (.int p4), .val (.int p5), .val (.ref c1), .val (.int (0 : Int32)), .val (.int (p3 % (9 : Int32))), .val (.int (p4 % (9 : Int32))), .unset, .unset, .unset, .unset, .unset, .unset, .unset] [(.int p2)]))
      refine OwnEnds.st (fun t_ k_ => XS.sipush X1.here hx rfl (hb hby at_43) k_) ?_
      show OwnEnds _ _ _ _ _ _ _ (T1.setTop (mkF m 46 #[.val (.int p1), .val (.int p2), .val (.int p3), .val (.int p4), .val (.int p5), .val (.ref c1), .val (.int (0 : Int32)), .val (.int (p3 % (9 : Int32))), .val (.int (p4 % (9 : Int32))), .unset, .unset, .unset, .unset, .unset, .unset, .unset] [(.int (1000 : Int32)), (.int p2)]))
      refine OwnEnds.st (fun t_ k_ => iremM X1 hx rfl (hb hby at_46) rfl (by decide) k_) ?_
      show OwnEnds _ _ _ _ _ _ _ (T1.setTop (mkF m 47 #[.val (.int p1), .val (.int p2), .val (.int p3), .val (.int p4), .val (.int p5), .val (.ref c1), .val (.int (0 : Int32)), .val (.int (p3 % (9 : Int32))), .val (.int (p4 % (9 : Int32))), .unset, .unset, .unset, .unset, .unset, .unset, .unset] [(.int (p2 % (1000 : Int32)))]))
      refine OwnEnds.st (fun t_ k_ => XS.istore X1.here hx rfl (hb hby at_47) rfl (l' := #[.val (.int p1), .val (.int p2), .val (.int p3), .val (.int p4), .val (.int p5), .val (.ref c1), .val (.int (0 : Int32)), .val (.int (p3 % (9 : Int32))), .val (.int (p4 % (9 : Int32))), .val (.int (p2 % (1000 : Int32))), .unset, .unset, .unset, .unset, .unset, .unset]) rfl k_) ?_
      show OwnEnds _ _ _ _ _ _ _ (T1.setTop (mkF m 49 #[.val (.int p1), .val (.int p2), .val (.int p3), .val (.int p4), .val (.int p5), .val (.ref c1), .val (.int (0 : Int32)), .val (.int (p3 % (9 : Int32))), .val (.int (p4 % (9 : Int32))), .val (.int (p2 % (1000 : Int32))), .unset, .unset, .unset, .unset, .unset, .unset] []))
      refine OwnEnds.st (fun t_ k_ => XS.iload X1.here hx rfl (hb hby at_49) rfl k_) ?_
      show OwnEnds _ _ _ _ _ _ _ (T1.setTop (mkF m 51 #[.val (.int p1), .val (.int p2), .val (.int p3), .val (.int p4), .val (.int p5), .val (.ref c1), .val (.int (0 : Int32)), .val (.int (p3 % (9 : Int32))), .val (.int (p4 % (9 : Int32))), .val (.int (p2 % (1000 : Int32))), .unset, .unset, .unset, .unset, .unset, .unset] [(.int p5)]))
      refine OwnEnds.st (fun t_ k_ => X1.ldcInt hx hown (mvT hZ (hw _ (List.mem_of_getElem? (i := 3) rfl))) (g := (mkF m 51 #[.val (.int p1), .val (.int p2), .val (.int p3), .val (.int p4), .val (.int p5), .val (.ref c1), .val (.int (0 : Int32)), .val (.int (p3 % (9 : Int32))), .val (.int (p4 % (9 : Int32))), .val (.int (p2 % (1000 : Int32))), .unset, .unset, .unset, .unset, .unset, .unset] [(.int p5)])) rfl (hb hby at_51) t_ k_) ?_
      show OwnEnds _ _ _ _ _ _ _ (T1.setTop (mkF m 53 #[.val (.int p1), .val (.int p2), .val (.int p3), .val (.int p4), .val (.int p5), .val (.ref c1), .val (.int (0 : Int32)), .val (.int (p3 % (9 : Int32))), .val (.int (p4 % (9 : Int32))), .val (.int (p2 % (1000 : Int32))), .unset, .unset, .unset, .unset, .unset, .unset] [(.int (1000000 : Int32)), (.int p5)]))
      refine OwnEnds.st (fun t_ k_ => iremM X1 hx rfl (hb hby at_53) rfl (by decide) k_) ?_
      show OwnEnds _ _ _ _ _ _ _ (T1.setTop (mkF m 54 #[.val (.int p1), .val (.int p2), .val (.int p3), .val (.int p4), .val (.int p5), .val (.ref c1), .val (.int (0 : Int32)), .val (.int (p3 % (9 : Int32))), .val (.int (p4 % (9 : Int32))), .val (.int (p2 % (1000 : Int32))), .unset, .unset, .unset, .unset, .unset, .unset] [(.int (p5 % (1000000 : Int32)))]))
      refine OwnEnds.st (fun t_ k_ => XS.istore X1.here hx rfl (hb hby at_54) rfl (l' := #[.val (.int p1), .val (.int p2), .val (.int p3), .val (.int p4), .val (.int p5), .val (.ref c1), .val (.int (0 : Int32)), .val (.int (p3 % (9 : Int32))), .val (.int (p4 % (9 : Int32))), .val (.int (p2 % (1000 : Int32))), .val (.int (p5 % (1000000 : Int32))), .unset, .unset, .unset, .unset, .unset]) rfl k_) ?_
      show OwnEnds _ _ _ _ _ _ _ (T1.setTop (mkF m 56 #[.val (.int p1), .val (.int p2), .val (.int p3), .val (.int p4), .val (.int p5), .val (.ref c1), .val (.int (0 : Int32)), .val (.int (p3 % (9 : Int32))), .val (.int (p4 % (9 : Int32))), .val (.int (p2 % (1000 : Int32))), .val (.int (p5 % (1000000 : Int32))), .unset, .unset, .unset, .unset, .unset] []))
      obtain ⟨a, ea⟩ : ∃ z, z = (p3 % (9 : Int32)) := ⟨_, rfl⟩
      obtain ⟨b, eb⟩ : ∃ z, z = (p4 % (9 : Int32)) := ⟨_, rfl⟩
      obtain ⟨k, ek⟩ : ∃ z, z = (p2 % (1000 : Int32)) := ⟨_, rfl⟩
      obtain ⟨dd, edd⟩ : ∃ z, z = (p5 % (1000000 : Int32)) := ⟨_, rfl⟩
      rw [← ea, ← eb, ← ek, ← edd]
      have ha9 : a.toInt < 9 := by rw [ea]; exact (own_mod (by decide) (by decide)).2
      have hb9 : b.toInt < 9 := by rw [eb]; exact (own_mod (by decide) (by decide)).2
      have hk9 : -1000 < k.toInt ∧ k.toInt < 1000 := by rw [ek]; exact own_mod (by decide) (by decide)
      refine OwnEnds.st (fun t_ k_ => XS.iload X1.here hx rfl (hb hby at_56) rfl k_) ?_
      show OwnEnds _ _ _ _ _ _ _ (T1.setTop (mkF m 58 #[.val (.int p1), .val (.int p2), .val (.int p3), .val (.int p4), .val (.int p5), .val (.ref c1), .val (.int (0 : Int32)), .val (.int a), .val (.int b), .val (.int k), .val (.int dd), .unset, .unset, .unset, .unset, .unset] [(.int (0 : Int32))]))
      refine OwnEnds.st (fun t_ k_ => XS.ifYes X1.here hx rfl (pc0 := 58) (pc' := 72) rfl (hb hby at_58) rfl ((if0 _ _).trans (teq (rfl : (0 : Int32) = (0 : Int32))).1) (by decide) (by decide) k_) ?_
      show OwnEnds _ _ _ _ _ _ _ (T1.setTop (mkF m 72 #[.val (.int p1), .val (.int p2), .val (.int p3), .val (.int p4), .val (.int p5), .val (.ref c1), .val (.int (0 : Int32)), .val (.int a), .val (.int b), .val (.int k), .val (.int dd), .unset, .unset, .unset, .unset, .unset] []))
      refine OwnEnds.st (fun t_ k_ => XS.iload X1.here hx rfl (hb hby at_72) rfl k_) ?_
      show OwnEnds _ _ _ _ _ _ _ (T1.setTop (mkF m 74 #[.val (.int p1), .val (.int p2), .val (.int p3), .val (.int p4), .val (.int p5), .val (.ref c1), .val (.int (0 : Int32)), .val (.int a), .val (.int b), .val (.int k), .val (.int dd), .unset, .unset, .unset, .unset, .unset] [(.int dd)]))
      refine OwnEnds.st (fun t_ k_ => XS.istore X1.here hx rfl (hb hby at_74) rfl (l' := #[.val (.int p1), .val (.int p2), .val (.int p3), .val (.int p4), .val (.int p5), .val (.ref c1), .val (.int (0 : Int32)), .val (.int a), .val (.int b), .val (.int k), .val (.int dd), .val (.int dd), .unset, .unset, .unset, .unset]) rfl k_) ?_
      show OwnEnds _ _ _ _ _ _ _ (T1.setTop (mkF m 76 #[.val (.int p1), .val (.int p2), .val (.int p3), .val (.int p4), .val (.int p5), .val (.ref c1), .val (.int (0 : Int32)), .val (.int a), .val (.int b), .val (.int k), .val (.int dd), .val (.int dd), .unset, .unset, .unset, .unset] []))
      refine OwnEnds.st (fun t_ k_ => XS.iload X1.here hx rfl (hb hby at_76) rfl k_) ?_
      show OwnEnds _ _ _ _ _ _ _ (T1.setTop (mkF m 78 #[.val (.int p1), .val (.int p2), .val (.int p3), .val (.int p4), .val (.int p5), .val (.ref c1), .val (.int (0 : Int32)), .val (.int a), .val (.int b), .val (.int k), .val (.int dd), .val (.int dd), .unset, .unset, .unset, .unset] [(.int dd)]))
      refine OwnEnds.st (fun t_ k_ => XS.i2dS X1.here hx rfl (hb hby at_78) rfl rfl k_) ?_
      show OwnEnds _ _ _ _ _ _ _ (T1.setTop (mkF m 79 #[.val (.int p1), .val (.int p2), .val (.int p3), .val (.int p4), .val (.int p5), .val (.ref c1), .val (.int (0 : Int32)), .val (.int a), .val (.int b), .val (.int k), .val (.int dd), .val (.int dd), .unset, .unset, .unset, .unset] [(.double (FP.i2d dd))]))
      refine OwnEnds.st (fun t_ k_ => XS.dstore X1.here hx rfl (hb hby at_79) rfl (l' := #[.val (.int p1), .val (.int p2), .val (.int p3), .val (.int p4), .val (.int p5), .val (.ref c1), .val (.int (0 : Int32)), .val (.int a), .val (.int b), .val (.int k), .val (.int dd), .val (.int dd), .val (.double (FP.i2d dd)), .second, .unset, .unset]) rfl k_) ?_
      show OwnEnds _ _ _ _ _ _ _ (T1.setTop (mkF m 81 #[.val (.int p1), .val (.int p2), .val (.int p3), .val (.int p4), .val (.int p5), .val (.ref c1), .val (.int (0 : Int32)), .val (.int a), .val (.int b), .val (.int k), .val (.int dd), .val (.int dd), .val (.double (FP.i2d dd)), .second, .unset, .unset] []))
      refine OwnEnds.st (fun t_ k_ => XS.aload X1.here hx rfl (hb hby at_81) rfl rfl k_) ?_
      show OwnEnds _ _ _ _ _ _ _ (T1.setTop (mkF m 83 #[.val (.int p1), .val (.int p2), .val (.int p3), .val (.int p4), .val (.int p5), .val (.ref c1), .val (.int (0 : Int32)), .val (.int a), .val (.int b), .val (.int k), .val (.int dd), .val (.int dd), .val (.double (FP.i2d dd)), .second, .unset, .unset] [(.ref c1)]))
      refine OwnEnds.st (fun t_ k_ => XS.dload X1.here hx rfl (hb hby at_83) rfl k_) ?_
      show OwnEnds _ _ _ _ _ _ _ (T1.setTop (mkF m 85 #[.val (.int p1), .val (.int p2), .val (.int p3), .val (.int p4), .val (.int p5), .val (.ref c1), .val (.int (0 : Int32)), .val (.int a), .val (.int b), .val (.int k), .val (.int dd), .val (.int dd), .val (.double (FP.i2d dd)), .second, .unset, .unset] [(.double (FP.i2d dd)), (.ref c1)]))
      refine OwnEnds.st (fun t_ k_ => XS.iload X1.here hx rfl (hb hby at_85) rfl k_) ?_
      show OwnEnds _ _ _ _ _ _ _ (T1.setTop (mkF m 87 #[.val (.int p1), .val (.int p2), .val (.int p3), .val (.int p4), .val (.int p5), .val (.ref c1), .val (.int (0 : Int32)), .val (.int a), .val (.int b), .val (.int k), .val (.int dd), .val (.int dd), .val (.double (FP.i2d dd)), .second, .unset, .unset] [(.int a), (.double (FP.i2d dd)), (.ref c1)]))
      refine OwnEnds.st (fun t_ k_ => XS.i2dS X1.here hx rfl (hb hby at_87) rfl rfl k_) ?_
      show OwnEnds _ _ _ _ _ _ _ (T1.setTop (mkF m 88 #[.val (.int p1), .val (.int p2), .val (.int p3), .val (.int p4), .val (.int p5), .val (.ref c1), .val (.int (0 : Int32)), .val (.int a), .val (.int b), .val (.int k), .val (.int dd), .val (.int dd), .val (.double (FP.i2d dd)), .second, .unset, .unset] [(.double (FP.i2d a)), (.double (FP.i2d dd)), (.ref c1)]))
      refine OwnEnds.st (fun t_ k_ => XS.iload X1.here hx rfl (hb hby at_88) rfl k_) ?_
      show OwnEnds _ _ _ _ _ _ _ (T1.setTop (mkF m 90 #[.val (.int p1), .val (.int p2), .val (.int p3), .val (.int p4), .val (.int p5), .val (.ref c1), .val (.int (0 : Int32)), .val (.int a), .val (.int b), .val (.int k), .val (.int dd), .val (.int dd), .val (.double (FP.i2d dd)), .second, .unset, .unset] [(.int b), (.double (FP.i2d a)), (.double (FP.i2d dd)), (.ref c1)]))
      refine OwnEnds.st (fun t_ k_ => XS.i2dS X1.here hx rfl (hb hby at_90) rfl rfl k_) ?_
      show OwnEnds _ _ _ _ _ _ _ (T1.setTop (mkF m 91 #[.val (.int p1), .val (.int p2), .val (.int p3), .val (.int p4), .val (.int p5), .val (.ref c1), .val (.int (0 : Int32)), .val (.int a), .val (.int b), .val (.int k), .val (.int dd), .val (.int dd), .val (.double (FP.i2d dd)), .second, .unset, .unset] [(.double (FP.i2d b)), (.double (FP.i2d a)), (.double (FP.i2d dd)), (.ref c1)]))
      obtain ⟨cq2, kq2, q2a, q2b, q2c⟩ := isOf hZ e1 (E_c1)
      obtain ⟨_, _, ⟨T2, L2, k2, n2⟩, -, X2, ⟨Lc2, hQ2, l2, y2, z2⟩, st2⟩ := X1.virtualBack hx (y := (⟨"com/example/genius_loci/geniusloci/core/Similarity", "of", "(DDD)D"⟩ : MethodName)) (z := (⟨"com/example/genius_loci/geniusloci/core/Similarity", "of", "(DDD)D"⟩ : MethodName)) hown (mvT hZ (hw _ (List.mem_of_getElem? (i := 4) rfl))) (mvT hZ (hw _ (List.mem_of_getElem? (i := 5) rfl))) (notFace_of_selects (args := #[]) (mvT hZ (hw _ (List.mem_of_getElem? (i := 7) rfl)))) (mvT hZ (hw _ (List.mem_of_getElem? (i := 7) rfl))) (mvT hZ (hw _ (List.mem_of_getElem? (i := 6) rfl))) (by decide) (backOf (W := 0) (rm1 l Z a0 hw [] c1 0 dd a b h0 n0 Z0 E_c1 F_c1 (Or.inl rfl) ha9 hb9) hZ (hw _ (List.mem_of_getElem? (i := 8) rfl)) (hw _ (List.mem_of_getElem? (i := 1) rfl)) (by decide) (by decide)) q2a q2c (g := (mkF m 91 #[.val (.int p1), .val (.int p2), .val (.int p3), .val (.int p4), .val (.int p5), .val (.ref c1), .val (.int (0 : Int32)), .val (.int a), .val (.int b), .val (.int k), .val (.int dd), .val (.int dd), .val (.double (FP.i2d dd)), .second, .unset, .unset] [(.double (FP.i2d b)), (.double (FP.i2d a)), (.double (FP.i2d dd)), (.ref c1)])) rfl (by rw [hml]; rfl) (Steps.refl _) (argsL := [(.double (FP.i2d dd)), (.double (FP.i2d a)), (.double (FP.i2d b))]) (rest := []) (lenOf pd_1 rfl) rfl (by show 2 * 0 + _ ≤ _; exact Nat.le_of_eq rfl) (hb hby at_91) (fun _ _ => ⟨rfl, e1, (by decide : 0 + 0 ≤ _), (by decide : 0 + 0 ≤ _)⟩)
      dsimp only [Pt.U, Pt.locs, Pt.cells, Pt.slots] at X2 l2 y2 z2 st2 hQ2
      subst l2 y2 z2
      obtain ⟨rfl, N2q, hh2⟩ := hQ2
      have N2 := Fr.app N0 N2q
      refine OwnEnds.go st2 ?_
      show OwnEnds _ _ _ _ _ _ _ (T2.setTop (mkF m 94 #[.val (.int p1), .val (.int p2), .val (.int p3), .val (.int p4), .val (.int p5), .val (.ref c1), .val (.int (0 : Int32)), .val (.int a), .val (.int b), .val (.int k), .val (.int dd), .val (.int dd), .val (.double (FP.i2d dd)), .second, .unset, .unset] [(.double (own_of 0 dd a b))]))
      refine OwnEnds.st (fun t_ k_ => XS.dstore X2.here hx rfl (hb hby at_94) rfl (l' := #[.val (.int p1), .val (.int p2), .val (.int p3), .val (.int p4), .val (.int p5), .val (.ref c1), .val (.int (0 : Int32)), .val (.int a), .val (.int b), .val (.int k), .val (.int dd), .val (.int dd), .val (.double (FP.i2d dd)), .second, .val (.double (own_of 0 dd a b)), .second]) rfl k_) ?_
      show OwnEnds _ _ _ _ _ _ _ (T2.setTop (mkF m 96 #[.val (.int p1), .val (.int p2), .val (.int p3), .val (.int p4), .val (.int p5), .val (.ref c1), .val (.int (0 : Int32)), .val (.int a), .val (.int b), .val (.int k), .val (.int dd), .val (.int dd), .val (.double (FP.i2d dd)), .second, .val (.double (own_of 0 dd a b)), .second] []))
      refine OwnEnds.st (fun t_ k_ => XS.aload X2.here hx rfl (hb hby at_96) rfl rfl k_) ?_
      show OwnEnds _ _ _ _ _ _ _ (T2.setTop (mkF m 98 #[.val (.int p1), .val (.int p2), .val (.int p3), .val (.int p4), .val (.int p5), .val (.ref c1), .val (.int (0 : Int32)), .val (.int a), .val (.int b), .val (.int k), .val (.int dd), .val (.int dd), .val (.double (FP.i2d dd)), .second, .val (.double (own_of 0 dd a b)), .second] [(.ref c1)]))
      obtain ⟨T3, X3, e3, st3⟩ := getS2 X2 hx hZ hown (host := "") (Or.inl (hw _ (List.mem_of_getElem? (i := 18) rfl))) Via.refl hh2 S_d (g := (mkF m 98 #[.val (.int p1), .val (.int p2), .val (.int p3), .val (.int p4), .val (.int p5), .val (.ref c1), .val (.int (0 : Int32)), .val (.int a), .val (.int b), .val (.int k), .val (.int dd), .val (.int dd), .val (.double (FP.i2d dd)), .second, .val (.double (own_of 0 dd a b)), .second] [(.ref c1)])) rfl (hb hby at_98)
      refine OwnEnds.st st3 ?_
      show OwnEnds _ _ _ _ _ _ _ (T3.setTop (mkF m 101 #[.val (.int p1), .val (.int p2), .val (.int p3), .val (.int p4), .val (.int p5), .val (.ref c1), .val (.int (0 : Int32)), .val (.int a), .val (.int b), .val (.int k), .val (.int dd), .val (.int dd), .val (.double (FP.i2d dd)), .second, .val (.double (own_of 0 dd a b)), .second] [(.ref d1), (.ref c1)]))
      refine OwnEnds.st (fun t_ k_ => Jvm.RoadKit.acmp (g := (mkF m 101 #[.val (.int p1), .val (.int p2), .val (.int p3), .val (.int p4), .val (.int p5), .val (.ref c1), .val (.int (0 : Int32)), .val (.int a), .val (.int b), .val (.int k), .val (.int dd), .val (.int dd), .val (.double (FP.i2d dd)), .second, .val (.double (own_of 0 dd a b)), .second] [(.ref d1), (.ref c1)])) X3 hx rfl rfl rfl (pc0 := 101) (pc' := 118) (same := false) rfl (hb hby at_101) rfl (decide_eq_false fun q => hne (Value.ref.inj q)) (by decide) (by decide) k_) ?_
      show OwnEnds _ _ _ _ _ _ _ (T3.setTop (mkF m 118 #[.val (.int p1), .val (.int p2), .val (.int p3), .val (.int p4), .val (.int p5), .val (.ref c1), .val (.int (0 : Int32)), .val (.int a), .val (.int b), .val (.int k), .val (.int dd), .val (.int dd), .val (.double (FP.i2d dd)), .second, .val (.double (own_of 0 dd a b)), .second] []))
      refine OwnEnds.st (fun t_ k_ => XS.iload X3.here hx rfl (hb hby at_118) rfl k_) ?_
      show OwnEnds _ _ _ _ _ _ _ (T3.setTop (mkF m 120 #[.val (.int p1), .val (.int p2), .val (.int p3), .val (.int p4), .val (.int p5), .val (.ref c1), .val (.int (0 : Int32)), .val (.int a), .val (.int b), .val (.int k), .val (.int dd), .val (.int dd), .val (.double (FP.i2d dd)), .second, .val (.double (own_of 0 dd a b)), .second] [(.int a)]))
      by_cases ha : (0 : Int32) < a
      · refine OwnEnds.st (fun t_ k_ => XS.ifNo X3.here hx rfl (hb hby at_120) rfl ((if0 _ _).trans (tlt (ha : (0 : Int32) < a)).2.2.2) k_) ?_
        show OwnEnds _ _ _ _ _ _ _ (T3.setTop (mkF m 123 #[.val (.int p1), .val (.int p2), .val (.int p3), .val (.int p4), .val (.int p5), .val (.ref c1), .val (.int (0 : Int32)), .val (.int a), .val (.int b), .val (.int k), .val (.int dd), .val (.int dd), .val (.double (FP.i2d dd)), .second, .val (.double (own_of 0 dd a b)), .second] []))
        refine OwnEnds.st (fun t_ k_ => XS.iload X3.here hx rfl (hb hby at_123) rfl k_) ?_
        show OwnEnds _ _ _ _ _ _ _ (T3.setTop (mkF m 125 #[.val (.int p1), .val (.int p2), .val (.int p3), .val (.int p4), .val (.int p5), .val (.ref c1), .val (.int (0 : Int32)), .val (.int a), .val (.int b), .val (.int k), .val (.int dd), .val (.int dd), .val (.double (FP.i2d dd)), .second, .val (.double (own_of 0 dd a b)), .second] [(.int b)]))
        by_cases hb1 : (0 : Int32) < b
        · rw [own_of0 rfl ha hb1]
          obtain ⟨n, en⟩ : ∃ z, z = (a.toInt64 * b.toInt64) := ⟨_, rfl⟩
          have hn1 : 1 ≤ n.toInt := by rw [en, (own_abI ha hb1 ha9 hb9).1]; exact (own_abI ha hb1 ha9 hb9).2.1
          have hn2 : n.toInt ≤ 64 := by rw [en, (own_abI ha hb1 ha9 hb9).1]; exact (own_abI ha hb1 ha9 hb9).2.2
          rw [← en]
          refine OwnEnds.st (fun t_ k_ => XS.ifYes X3.here hx rfl (pc0 := 125) (pc' := 141) rfl (hb hby at_125) rfl ((if0 _ _).trans (tlt (hb1 : (0 : Int32) < b)).2.2.1) (by decide) (by decide) k_) ?_
          show OwnEnds _ _ _ _ _ _ _ (T3.setTop (mkF m 141 #[.val (.int p1), .val (.int p2), .val (.int p3), .val (.int p4), .val (.int p5), .val (.ref c1), .val (.int (0 : Int32)), .val (.int a), .val (.int b), .val (.int k), .val (.int dd), .val (.int dd), .val (.double (FP.i2d dd)), .second, .val (.double (FP.ddiv (FP.i2d dd) (FP.l2d n))), .second] []))
          refine OwnEnds.st (fun t_ k_ => XS.iload X3.here hx rfl (hb hby at_141) rfl k_) ?_
          show OwnEnds _ _ _ _ _ _ _ (T3.setTop (mkF m 143 #[.val (.int p1), .val (.int p2), .val (.int p3), .val (.int p4), .val (.int p5), .val (.ref c1), .val (.int (0 : Int32)), .val (.int a), .val (.int b), .val (.int k), .val (.int dd), .val (.int dd), .val (.double (FP.i2d dd)), .second, .val (.double (FP.ddiv (FP.i2d dd) (FP.l2d n))), .second] [(.int (0 : Int32))]))
          refine OwnEnds.st (fun t_ k_ => XS.ifYes X3.here hx rfl (pc0 := 143) (pc' := 161) rfl (hb hby at_143) rfl ((if0 _ _).trans (teq (rfl : (0 : Int32) = (0 : Int32))).1) (by decide) (by decide) k_) ?_
          show OwnEnds _ _ _ _ _ _ _ (T3.setTop (mkF m 161 #[.val (.int p1), .val (.int p2), .val (.int p3), .val (.int p4), .val (.int p5), .val (.ref c1), .val (.int (0 : Int32)), .val (.int a), .val (.int b), .val (.int k), .val (.int dd), .val (.int dd), .val (.double (FP.i2d dd)), .second, .val (.double (FP.ddiv (FP.i2d dd) (FP.l2d n))), .second] []))
          refine OwnEnds.st (fun t_ k_ => XS.iload X3.here hx rfl (hb hby at_161) rfl k_) ?_
          show OwnEnds _ _ _ _ _ _ _ (T3.setTop (mkF m 163 #[.val (.int p1), .val (.int p2), .val (.int p3), .val (.int p4), .val (.int p5), .val (.ref c1), .val (.int (0 : Int32)), .val (.int a), .val (.int b), .val (.int k), .val (.int dd), .val (.int dd), .val (.double (FP.i2d dd)), .second, .val (.double (FP.ddiv (FP.i2d dd) (FP.l2d n))), .second] [(.int dd)]))
          by_cases hd : (0 : Int32) < dd
          · refine OwnEnds.st (fun t_ k_ => XS.ifNo X3.here hx rfl (hb hby at_163) rfl ((if0 _ _).trans (tlt (hd : (0 : Int32) < dd)).2.2.2) k_) ?_
            show OwnEnds _ _ _ _ _ _ _ (T3.setTop (mkF m 166 #[.val (.int p1), .val (.int p2), .val (.int p3), .val (.int p4), .val (.int p5), .val (.ref c1), .val (.int (0 : Int32)), .val (.int a), .val (.int b), .val (.int k), .val (.int dd), .val (.int dd), .val (.double (FP.i2d dd)), .second, .val (.double (FP.ddiv (FP.i2d dd) (FP.l2d n))), .second] []))
            refine OwnEnds.st (fun t_ k_ => XS.dconst0 X3.here hx rfl (hb hby at_166) rfl k_) ?_
            show OwnEnds _ _ _ _ _ _ _ (T3.setTop (mkF m 167 #[.val (.int p1), .val (.int p2), .val (.int p3), .val (.int p4), .val (.int p5), .val (.ref c1), .val (.int (0 : Int32)), .val (.int a), .val (.int b), .val (.int k), .val (.int dd), .val (.int dd), .val (.double (FP.i2d dd)), .second, .val (.double (FP.ddiv (FP.i2d dd) (FP.l2d n))), .second] [(.double (0 : UInt64))]))
            refine OwnEnds.st (fun t_ k_ => XS.dload X3.here hx rfl (hb hby at_167) rfl k_) ?_
            show OwnEnds _ _ _ _ _ _ _ (T3.setTop (mkF m 169 #[.val (.int p1), .val (.int p2), .val (.int p3), .val (.int p4), .val (.int p5), .val (.ref c1), .val (.int (0 : Int32)), .val (.int a), .val (.int b), .val (.int k), .val (.int dd), .val (.int dd), .val (.double (FP.i2d dd)), .second, .val (.double (FP.ddiv (FP.i2d dd) (FP.l2d n))), .second] [(.double (FP.ddiv (FP.i2d dd) (FP.l2d n))), (.double (0 : UInt64))]))
            refine OwnEnds.st (fun t_ k_ => XS.dcmpS X3.here hx rfl (hb hby at_169) rfl (own_pos1 hn1 hn2 hd) k_) ?_
            show OwnEnds _ _ _ _ _ _ _ (T3.setTop (mkF m 170 #[.val (.int p1), .val (.int p2), .val (.int p3), .val (.int p4), .val (.int p5), .val (.ref c1), .val (.int (0 : Int32)), .val (.int a), .val (.int b), .val (.int k), .val (.int dd), .val (.int dd), .val (.double (FP.i2d dd)), .second, .val (.double (FP.ddiv (FP.i2d dd) (FP.l2d n))), .second] [(.int (-1 : Int32))]))
            refine OwnEnds.st (fun t_ k_ => XS.ifNo X3.here hx rfl (hb hby at_170) rfl ((if0 _ _).trans (tlt ((by decide) : (-1 : Int32) < (0 : Int32))).2.1) k_) ?_
            show OwnEnds _ _ _ _ _ _ _ (T3.setTop (mkF m 173 #[.val (.int p1), .val (.int p2), .val (.int p3), .val (.int p4), .val (.int p5), .val (.ref c1), .val (.int (0 : Int32)), .val (.int a), .val (.int b), .val (.int k), .val (.int dd), .val (.int dd), .val (.double (FP.i2d dd)), .second, .val (.double (FP.ddiv (FP.i2d dd) (FP.l2d n))), .second] []))
            refine OwnEnds.st (fun t_ k_ => XS.dload X3.here hx rfl (hb hby at_173) rfl k_) ?_
            show OwnEnds _ _ _ _ _ _ _ (T3.setTop (mkF m 175 #[.val (.int p1), .val (.int p2), .val (.int p3), .val (.int p4), .val (.int p5), .val (.ref c1), .val (.int (0 : Int32)), .val (.int a), .val (.int b), .val (.int k), .val (.int dd), .val (.int dd), .val (.double (FP.i2d dd)), .second, .val (.double (FP.ddiv (FP.i2d dd) (FP.l2d n))), .second] [(.double (FP.ddiv (FP.i2d dd) (FP.l2d n)))]))
            refine OwnEnds.st (fun t_ k_ => XS.dload X3.here hx rfl (hb hby at_175) rfl k_) ?_
            show OwnEnds _ _ _ _ _ _ _ (T3.setTop (mkF m 177 #[.val (.int p1), .val (.int p2), .val (.int p3), .val (.int p4), .val (.int p5), .val (.ref c1), .val (.int (0 : Int32)), .val (.int a), .val (.int b), .val (.int k), .val (.int dd), .val (.int dd), .val (.double (FP.i2d dd)), .second, .val (.double (FP.ddiv (FP.i2d dd) (FP.l2d n))), .second] [(.double (FP.i2d dd)), (.double (FP.ddiv (FP.i2d dd) (FP.l2d n)))]))
            refine OwnEnds.st (fun t_ k_ => XS.dcmpS X3.here hx rfl (hb hby at_177) rfl rfl k_) ?_
            show OwnEnds _ _ _ _ _ _ _ (T3.setTop (mkF m 178 #[.val (.int p1), .val (.int p2), .val (.int p3), .val (.int p4), .val (.int p5), .val (.ref c1), .val (.int (0 : Int32)), .val (.int a), .val (.int b), .val (.int k), .val (.int dd), .val (.int dd), .val (.double (FP.i2d dd)), .second, .val (.double (FP.ddiv (FP.i2d dd) (FP.l2d n))), .second] [(.int (cmpValue (FP.dcmp (FP.ddiv (FP.i2d dd) (FP.l2d n)) (FP.i2d dd)) .g))]))
            refine OwnEnds.st (fun t_ k_ => XS.ifNo X3.here hx rfl (hb hby at_178) rfl ((if0 _ _).trans (flt (own_pos2 hn1 hn2 hd : ¬ ((0 : Int32) < (cmpValue (FP.dcmp (FP.ddiv (FP.i2d dd) (FP.l2d n)) (FP.i2d dd)) .g)))).2.2.1) k_) ?_
            show OwnEnds _ _ _ _ _ _ _ (T3.setTop (mkF m 181 #[.val (.int p1), .val (.int p2), .val (.int p3), .val (.int p4), .val (.int p5), .val (.ref c1), .val (.int (0 : Int32)), .val (.int a), .val (.int b), .val (.int k), .val (.int dd), .val (.int dd), .val (.double (FP.i2d dd)), .second, .val (.double (FP.ddiv (FP.i2d dd) (FP.l2d n))), .second] []))
            refine OwnEnds.st (fun t_ k_ => XS.iconst X3.here hx rfl (hb hby at_181) k_) ?_
            show OwnEnds _ _ _ _ _ _ _ (T3.setTop (mkF m 182 #[.val (.int p1), .val (.int p2), .val (.int p3), .val (.int p4), .val (.int p5), .val (.ref c1), .val (.int (0 : Int32)), .val (.int a), .val (.int b), .val (.int k), .val (.int dd), .val (.int dd), .val (.double (FP.i2d dd)), .second, .val (.double (FP.ddiv (FP.i2d dd) (FP.l2d n))), .second] [(.int (1 : Int32))]))
            refine OwnEnds.st (fun t_ k_ => XS.goto X3.here hx rfl (pc0 := 182) (pc' := 186) rfl (hb hby at_182) (by decide) (by decide) k_) ?_
            show OwnEnds _ _ _ _ _ _ _ (T3.setTop (mkF m 186 #[.val (.int p1), .val (.int p2), .val (.int p3), .val (.int p4), .val (.int p5), .val (.ref c1), .val (.int (0 : Int32)), .val (.int a), .val (.int b), .val (.int k), .val (.int dd), .val (.int dd), .val (.double (FP.i2d dd)), .second, .val (.double (FP.ddiv (FP.i2d dd) (FP.l2d n))), .second] [(.int (1 : Int32))]))
            refine own_retN (t := .boolean) X3 hx Bd.returns Bd.notSynchronized (by simp) (hb hby at_186) ?_ (by decide) (by decide)
            show Q0 Z p1 p2 p3 p4 p5 c1 d1 h0 n0 _ T3.heap _
            rw [e3]
            exact ⟨rfl, N2⟩
          · refine OwnEnds.st (fun t_ k_ => XS.ifYes X3.here hx rfl (pc0 := 163) (pc' := 187) rfl (hb hby at_163) rfl ((if0 _ _).trans (flt (hd : ¬ ((0 : Int32) < dd))).2.2.2) (by decide) (by decide) k_) ?_
            show OwnEnds _ _ _ _ _ _ _ (T3.setTop (mkF m 187 #[.val (.int p1), .val (.int p2), .val (.int p3), .val (.int p4), .val (.int p5), .val (.ref c1), .val (.int (0 : Int32)), .val (.int a), .val (.int b), .val (.int k), .val (.int dd), .val (.int dd), .val (.double (FP.i2d dd)), .second, .val (.double (FP.ddiv (FP.i2d dd) (FP.l2d n))), .second] []))
            refine OwnEnds.st (fun t_ k_ => XS.iload X3.here hx rfl (hb hby at_187) rfl k_) ?_
            show OwnEnds _ _ _ _ _ _ _ (T3.setTop (mkF m 189 #[.val (.int p1), .val (.int p2), .val (.int p3), .val (.int p4), .val (.int p5), .val (.ref c1), .val (.int (0 : Int32)), .val (.int a), .val (.int b), .val (.int k), .val (.int dd), .val (.int dd), .val (.double (FP.i2d dd)), .second, .val (.double (FP.ddiv (FP.i2d dd) (FP.l2d n))), .second] [(.int dd)]))
            by_cases he : dd < (0 : Int32)
            · refine OwnEnds.st (fun t_ k_ => XS.ifNo X3.here hx rfl (hb hby at_189) rfl ((if0 _ _).trans (tlt (he : dd < (0 : Int32))).2.1) k_) ?_
              show OwnEnds _ _ _ _ _ _ _ (T3.setTop (mkF m 192 #[.val (.int p1), .val (.int p2), .val (.int p3), .val (.int p4), .val (.int p5), .val (.ref c1), .val (.int (0 : Int32)), .val (.int a), .val (.int b), .val (.int k), .val (.int dd), .val (.int dd), .val (.double (FP.i2d dd)), .second, .val (.double (FP.ddiv (FP.i2d dd) (FP.l2d n))), .second] []))
              refine OwnEnds.st (fun t_ k_ => XS.dload X3.here hx rfl (hb hby at_192) rfl k_) ?_
              show OwnEnds _ _ _ _ _ _ _ (T3.setTop (mkF m 194 #[.val (.int p1), .val (.int p2), .val (.int p3), .val (.int p4), .val (.int p5), .val (.ref c1), .val (.int (0 : Int32)), .val (.int a), .val (.int b), .val (.int k), .val (.int dd), .val (.int dd), .val (.double (FP.i2d dd)), .second, .val (.double (FP.ddiv (FP.i2d dd) (FP.l2d n))), .second] [(.double (FP.i2d dd))]))
              refine OwnEnds.st (fun t_ k_ => XS.dload X3.here hx rfl (hb hby at_194) rfl k_) ?_
              show OwnEnds _ _ _ _ _ _ _ (T3.setTop (mkF m 196 #[.val (.int p1), .val (.int p2), .val (.int p3), .val (.int p4), .val (.int p5), .val (.ref c1), .val (.int (0 : Int32)), .val (.int a), .val (.int b), .val (.int k), .val (.int dd), .val (.int dd), .val (.double (FP.i2d dd)), .second, .val (.double (FP.ddiv (FP.i2d dd) (FP.l2d n))), .second] [(.double (FP.ddiv (FP.i2d dd) (FP.l2d n))), (.double (FP.i2d dd))]))
              refine OwnEnds.st (fun t_ k_ => XS.dcmpS X3.here hx rfl (hb hby at_196) rfl rfl k_) ?_
              show OwnEnds _ _ _ _ _ _ _ (T3.setTop (mkF m 197 #[.val (.int p1), .val (.int p2), .val (.int p3), .val (.int p4), .val (.int p5), .val (.ref c1), .val (.int (0 : Int32)), .val (.int a), .val (.int b), .val (.int k), .val (.int dd), .val (.int dd), .val (.double (FP.i2d dd)), .second, .val (.double (FP.ddiv (FP.i2d dd) (FP.l2d n))), .second] [(.int (cmpValue (FP.dcmp (FP.i2d dd) (FP.ddiv (FP.i2d dd) (FP.l2d n))) .g))]))
              refine OwnEnds.st (fun t_ k_ => XS.ifNo X3.here hx rfl (hb hby at_197) rfl ((if0 _ _).trans (flt (own_neg1 hn1 hn2 he : ¬ ((0 : Int32) < (cmpValue (FP.dcmp (FP.i2d dd) (FP.ddiv (FP.i2d dd) (FP.l2d n))) .g)))).2.2.1) k_) ?_
              show OwnEnds _ _ _ _ _ _ _ (T3.setTop (mkF m 200 #[.val (.int p1), .val (.int p2), .val (.int p3), .val (.int p4), .val (.int p5), .val (.ref c1), .val (.int (0 : Int32)), .val (.int a), .val (.int b), .val (.int k), .val (.int dd), .val (.int dd), .val (.double (FP.i2d dd)), .second, .val (.double (FP.ddiv (FP.i2d dd) (FP.l2d n))), .second] []))
              refine OwnEnds.st (fun t_ k_ => XS.dload X3.here hx rfl (hb hby at_200) rfl k_) ?_
              show OwnEnds _ _ _ _ _ _ _ (T3.setTop (mkF m 202 #[.val (.int p1), .val (.int p2), .val (.int p3), .val (.int p4), .val (.int p5), .val (.ref c1), .val (.int (0 : Int32)), .val (.int a), .val (.int b), .val (.int k), .val (.int dd), .val (.int dd), .val (.double (FP.i2d dd)), .second, .val (.double (FP.ddiv (FP.i2d dd) (FP.l2d n))), .second] [(.double (FP.ddiv (FP.i2d dd) (FP.l2d n)))]))
              refine OwnEnds.st (fun t_ k_ => XS.dconst0 X3.here hx rfl (hb hby at_202) rfl k_) ?_
              show OwnEnds _ _ _ _ _ _ _ (T3.setTop (mkF m 203 #[.val (.int p1), .val (.int p2), .val (.int p3), .val (.int p4), .val (.int p5), .val (.ref c1), .val (.int (0 : Int32)), .val (.int a), .val (.int b), .val (.int k), .val (.int dd), .val (.int dd), .val (.double (FP.i2d dd)), .second, .val (.double (FP.ddiv (FP.i2d dd) (FP.l2d n))), .second] [(.double (0 : UInt64)), (.double (FP.ddiv (FP.i2d dd) (FP.l2d n)))]))
              refine OwnEnds.st (fun t_ k_ => XS.dcmpS X3.here hx rfl (hb hby at_203) rfl (own_neg2 hn1 hn2 he) k_) ?_
              show OwnEnds _ _ _ _ _ _ _ (T3.setTop (mkF m 204 #[.val (.int p1), .val (.int p2), .val (.int p3), .val (.int p4), .val (.int p5), .val (.ref c1), .val (.int (0 : Int32)), .val (.int a), .val (.int b), .val (.int k), .val (.int dd), .val (.int dd), .val (.double (FP.i2d dd)), .second, .val (.double (FP.ddiv (FP.i2d dd) (FP.l2d n))), .second] [(.int (-1 : Int32))]))
              refine OwnEnds.st (fun t_ k_ => XS.ifNo X3.here hx rfl (hb hby at_204) rfl ((if0 _ _).trans (tlt ((by decide) : (-1 : Int32) < (0 : Int32))).2.1) k_) ?_
              show OwnEnds _ _ _ _ _ _ _ (T3.setTop (mkF m 207 #[.val (.int p1), .val (.int p2), .val (.int p3), .val (.int p4), .val (.int p5), .val (.ref c1), .val (.int (0 : Int32)), .val (.int a), .val (.int b), .val (.int k), .val (.int dd), .val (.int dd), .val (.double (FP.i2d dd)), .second, .val (.double (FP.ddiv (FP.i2d dd) (FP.l2d n))), .second] []))
              refine OwnEnds.st (fun t_ k_ => XS.iconst X3.here hx rfl (hb hby at_207) k_) ?_
              show OwnEnds _ _ _ _ _ _ _ (T3.setTop (mkF m 208 #[.val (.int p1), .val (.int p2), .val (.int p3), .val (.int p4), .val (.int p5), .val (.ref c1), .val (.int (0 : Int32)), .val (.int a), .val (.int b), .val (.int k), .val (.int dd), .val (.int dd), .val (.double (FP.i2d dd)), .second, .val (.double (FP.ddiv (FP.i2d dd) (FP.l2d n))), .second] [(.int (1 : Int32))]))
              refine OwnEnds.st (fun t_ k_ => XS.goto X3.here hx rfl (pc0 := 208) (pc' := 212) rfl (hb hby at_208) (by decide) (by decide) k_) ?_
              show OwnEnds _ _ _ _ _ _ _ (T3.setTop (mkF m 212 #[.val (.int p1), .val (.int p2), .val (.int p3), .val (.int p4), .val (.int p5), .val (.ref c1), .val (.int (0 : Int32)), .val (.int a), .val (.int b), .val (.int k), .val (.int dd), .val (.int dd), .val (.double (FP.i2d dd)), .second, .val (.double (FP.ddiv (FP.i2d dd) (FP.l2d n))), .second] [(.int (1 : Int32))]))
              refine own_retN (t := .boolean) X3 hx Bd.returns Bd.notSynchronized (by simp) (hb hby at_212) ?_ (by decide) (by decide)
              show Q0 Z p1 p2 p3 p4 p5 c1 d1 h0 n0 _ T3.heap _
              rw [e3]
              exact ⟨rfl, N2⟩
            · refine OwnEnds.st (fun t_ k_ => XS.ifYes X3.here hx rfl (pc0 := 189) (pc' := 213) rfl (hb hby at_189) rfl ((if0 _ _).trans (flt (he : ¬ (dd < (0 : Int32)))).2.1) (by decide) (by decide) k_) ?_
              show OwnEnds _ _ _ _ _ _ _ (T3.setTop (mkF m 213 #[.val (.int p1), .val (.int p2), .val (.int p3), .val (.int p4), .val (.int p5), .val (.ref c1), .val (.int (0 : Int32)), .val (.int a), .val (.int b), .val (.int k), .val (.int dd), .val (.int dd), .val (.double (FP.i2d dd)), .second, .val (.double (FP.ddiv (FP.i2d dd) (FP.l2d n))), .second] []))
              refine OwnEnds.st (fun t_ k_ => XS.dload X3.here hx rfl (hb hby at_213) rfl k_) ?_
              show OwnEnds _ _ _ _ _ _ _ (T3.setTop (mkF m 215 #[.val (.int p1), .val (.int p2), .val (.int p3), .val (.int p4), .val (.int p5), .val (.ref c1), .val (.int (0 : Int32)), .val (.int a), .val (.int b), .val (.int k), .val (.int dd), .val (.int dd), .val (.double (FP.i2d dd)), .second, .val (.double (FP.ddiv (FP.i2d dd) (FP.l2d n))), .second] [(.double (FP.ddiv (FP.i2d dd) (FP.l2d n)))]))
              refine OwnEnds.st (fun t_ k_ => XS.dconst0 X3.here hx rfl (hb hby at_215) rfl k_) ?_
              show OwnEnds _ _ _ _ _ _ _ (T3.setTop (mkF m 216 #[.val (.int p1), .val (.int p2), .val (.int p3), .val (.int p4), .val (.int p5), .val (.ref c1), .val (.int (0 : Int32)), .val (.int a), .val (.int b), .val (.int k), .val (.int dd), .val (.int dd), .val (.double (FP.i2d dd)), .second, .val (.double (FP.ddiv (FP.i2d dd) (FP.l2d n))), .second] [(.double (0 : UInt64)), (.double (FP.ddiv (FP.i2d dd) (FP.l2d n)))]))
              refine OwnEnds.st (fun t_ k_ => XS.dcmpS X3.here hx rfl (hb hby at_216) rfl (own_ceq (own_zero hn1 hn2 (own_tri hd he))) k_) ?_
              show OwnEnds _ _ _ _ _ _ _ (T3.setTop (mkF m 217 #[.val (.int p1), .val (.int p2), .val (.int p3), .val (.int p4), .val (.int p5), .val (.ref c1), .val (.int (0 : Int32)), .val (.int a), .val (.int b), .val (.int k), .val (.int dd), .val (.int dd), .val (.double (FP.i2d dd)), .second, .val (.double (FP.ddiv (FP.i2d dd) (FP.l2d n))), .second] [(.int (0 : Int32))]))
              refine OwnEnds.st (fun t_ k_ => XS.ifNo X3.here hx rfl (hb hby at_217) rfl ((if0 _ _).trans (teq (rfl : (0 : Int32) = (0 : Int32))).2) k_) ?_
              show OwnEnds _ _ _ _ _ _ _ (T3.setTop (mkF m 220 #[.val (.int p1), .val (.int p2), .val (.int p3), .val (.int p4), .val (.int p5), .val (.ref c1), .val (.int (0 : Int32)), .val (.int a), .val (.int b), .val (.int k), .val (.int dd), .val (.int dd), .val (.double (FP.i2d dd)), .second, .val (.double (FP.ddiv (FP.i2d dd) (FP.l2d n))), .second] []))
              refine OwnEnds.st (fun t_ k_ => XS.iconst X3.here hx rfl (hb hby at_220) k_) ?_
              show OwnEnds _ _ _ _ _ _ _ (T3.setTop (mkF m 221 #[.val (.int p1), .val (.int p2), .val (.int p3), .val (.int p4), .val (.int p5), .val (.ref c1), .val (.int (0 : Int32)), .val (.int a), .val (.int b), .val (.int k), .val (.int dd), .val (.int dd), .val (.double (FP.i2d dd)), .second, .val (.double (FP.ddiv (FP.i2d dd) (FP.l2d n))), .second] [(.int (1 : Int32))]))
              refine OwnEnds.st (fun t_ k_ => XS.goto X3.here hx rfl (pc0 := 221) (pc' := 225) rfl (hb hby at_221) (by decide) (by decide) k_) ?_
              show OwnEnds _ _ _ _ _ _ _ (T3.setTop (mkF m 225 #[.val (.int p1), .val (.int p2), .val (.int p3), .val (.int p4), .val (.int p5), .val (.ref c1), .val (.int (0 : Int32)), .val (.int a), .val (.int b), .val (.int k), .val (.int dd), .val (.int dd), .val (.double (FP.i2d dd)), .second, .val (.double (FP.ddiv (FP.i2d dd) (FP.l2d n))), .second] [(.int (1 : Int32))]))
              refine own_retN (t := .boolean) X3 hx Bd.returns Bd.notSynchronized (by simp) (hb hby at_225) ?_ (by decide) (by decide)
              show Q0 Z p1 p2 p3 p4 p5 c1 d1 h0 n0 _ T3.heap _
              rw [e3]
              exact ⟨rfl, N2⟩
        · rw [own_ofz rfl (fun q => hb1 q.2)]
          refine OwnEnds.st (fun t_ k_ => XS.ifNo X3.here hx rfl (hb hby at_125) rfl ((if0 _ _).trans (flt (hb1 : ¬ ((0 : Int32) < b))).2.2.1) k_) ?_
          show OwnEnds _ _ _ _ _ _ _ (T3.setTop (mkF m 128 #[.val (.int p1), .val (.int p2), .val (.int p3), .val (.int p4), .val (.int p5), .val (.ref c1), .val (.int (0 : Int32)), .val (.int a), .val (.int b), .val (.int k), .val (.int dd), .val (.int dd), .val (.double (FP.i2d dd)), .second, .val (.double (0 : UInt64)), .second] []))
          refine OwnEnds.st (fun t_ k_ => XS.dload X3.here hx rfl (hb hby at_128) rfl k_) ?_
          show OwnEnds _ _ _ _ _ _ _ (T3.setTop (mkF m 130 #[.val (.int p1), .val (.int p2), .val (.int p3), .val (.int p4), .val (.int p5), .val (.ref c1), .val (.int (0 : Int32)), .val (.int a), .val (.int b), .val (.int k), .val (.int dd), .val (.int dd), .val (.double (FP.i2d dd)), .second, .val (.double (0 : UInt64)), .second] [(.double (0 : UInt64))]))
          refine OwnEnds.st (fun t_ k_ => XS.dconst0 X3.here hx rfl (hb hby at_130) rfl k_) ?_
          show OwnEnds _ _ _ _ _ _ _ (T3.setTop (mkF m 131 #[.val (.int p1), .val (.int p2), .val (.int p3), .val (.int p4), .val (.int p5), .val (.ref c1), .val (.int (0 : Int32)), .val (.int a), .val (.int b), .val (.int k), .val (.int dd), .val (.int dd), .val (.double (FP.i2d dd)), .second, .val (.double (0 : UInt64)), .second] [(.double (0 : UInt64)), (.double (0 : UInt64))]))
          refine OwnEnds.st (fun t_ k_ => XS.dcmpS X3.here hx rfl (hb hby at_131) rfl own_self0 k_) ?_
          show OwnEnds _ _ _ _ _ _ _ (T3.setTop (mkF m 132 #[.val (.int p1), .val (.int p2), .val (.int p3), .val (.int p4), .val (.int p5), .val (.ref c1), .val (.int (0 : Int32)), .val (.int a), .val (.int b), .val (.int k), .val (.int dd), .val (.int dd), .val (.double (FP.i2d dd)), .second, .val (.double (0 : UInt64)), .second] [(.int (0 : Int32))]))
          refine OwnEnds.st (fun t_ k_ => XS.ifNo X3.here hx rfl (hb hby at_132) rfl ((if0 _ _).trans (teq (rfl : (0 : Int32) = (0 : Int32))).2) k_) ?_
          show OwnEnds _ _ _ _ _ _ _ (T3.setTop (mkF m 135 #[.val (.int p1), .val (.int p2), .val (.int p3), .val (.int p4), .val (.int p5), .val (.ref c1), .val (.int (0 : Int32)), .val (.int a), .val (.int b), .val (.int k), .val (.int dd), .val (.int dd), .val (.double (FP.i2d dd)), .second, .val (.double (0 : UInt64)), .second] []))
          refine OwnEnds.st (fun t_ k_ => XS.iconst X3.here hx rfl (hb hby at_135) k_) ?_
          show OwnEnds _ _ _ _ _ _ _ (T3.setTop (mkF m 136 #[.val (.int p1), .val (.int p2), .val (.int p3), .val (.int p4), .val (.int p5), .val (.ref c1), .val (.int (0 : Int32)), .val (.int a), .val (.int b), .val (.int k), .val (.int dd), .val (.int dd), .val (.double (FP.i2d dd)), .second, .val (.double (0 : UInt64)), .second] [(.int (1 : Int32))]))
          refine OwnEnds.st (fun t_ k_ => XS.goto X3.here hx rfl (pc0 := 136) (pc' := 140) rfl (hb hby at_136) (by decide) (by decide) k_) ?_
          show OwnEnds _ _ _ _ _ _ _ (T3.setTop (mkF m 140 #[.val (.int p1), .val (.int p2), .val (.int p3), .val (.int p4), .val (.int p5), .val (.ref c1), .val (.int (0 : Int32)), .val (.int a), .val (.int b), .val (.int k), .val (.int dd), .val (.int dd), .val (.double (FP.i2d dd)), .second, .val (.double (0 : UInt64)), .second] [(.int (1 : Int32))]))
          refine own_retN (t := .boolean) X3 hx Bd.returns Bd.notSynchronized (by simp) (hb hby at_140) ?_ (by decide) (by decide)
          show Q0 Z p1 p2 p3 p4 p5 c1 d1 h0 n0 _ T3.heap _
          rw [e3]
          exact ⟨rfl, N2⟩
      · rw [own_ofz rfl (fun q => ha q.1)]
        refine OwnEnds.st (fun t_ k_ => XS.ifYes X3.here hx rfl (pc0 := 120) (pc' := 128) rfl (hb hby at_120) rfl ((if0 _ _).trans (flt (ha : ¬ ((0 : Int32) < a))).2.2.2) (by decide) (by decide) k_) ?_
        show OwnEnds _ _ _ _ _ _ _ (T3.setTop (mkF m 128 #[.val (.int p1), .val (.int p2), .val (.int p3), .val (.int p4), .val (.int p5), .val (.ref c1), .val (.int (0 : Int32)), .val (.int a), .val (.int b), .val (.int k), .val (.int dd), .val (.int dd), .val (.double (FP.i2d dd)), .second, .val (.double (0 : UInt64)), .second] []))
        refine OwnEnds.st (fun t_ k_ => XS.dload X3.here hx rfl (hb hby at_128) rfl k_) ?_
        show OwnEnds _ _ _ _ _ _ _ (T3.setTop (mkF m 130 #[.val (.int p1), .val (.int p2), .val (.int p3), .val (.int p4), .val (.int p5), .val (.ref c1), .val (.int (0 : Int32)), .val (.int a), .val (.int b), .val (.int k), .val (.int dd), .val (.int dd), .val (.double (FP.i2d dd)), .second, .val (.double (0 : UInt64)), .second] [(.double (0 : UInt64))]))
        refine OwnEnds.st (fun t_ k_ => XS.dconst0 X3.here hx rfl (hb hby at_130) rfl k_) ?_
        show OwnEnds _ _ _ _ _ _ _ (T3.setTop (mkF m 131 #[.val (.int p1), .val (.int p2), .val (.int p3), .val (.int p4), .val (.int p5), .val (.ref c1), .val (.int (0 : Int32)), .val (.int a), .val (.int b), .val (.int k), .val (.int dd), .val (.int dd), .val (.double (FP.i2d dd)), .second, .val (.double (0 : UInt64)), .second] [(.double (0 : UInt64)), (.double (0 : UInt64))]))
        refine OwnEnds.st (fun t_ k_ => XS.dcmpS X3.here hx rfl (hb hby at_131) rfl own_self0 k_) ?_
        show OwnEnds _ _ _ _ _ _ _ (T3.setTop (mkF m 132 #[.val (.int p1), .val (.int p2), .val (.int p3), .val (.int p4), .val (.int p5), .val (.ref c1), .val (.int (0 : Int32)), .val (.int a), .val (.int b), .val (.int k), .val (.int dd), .val (.int dd), .val (.double (FP.i2d dd)), .second, .val (.double (0 : UInt64)), .second] [(.int (0 : Int32))]))
        refine OwnEnds.st (fun t_ k_ => XS.ifNo X3.here hx rfl (hb hby at_132) rfl ((if0 _ _).trans (teq (rfl : (0 : Int32) = (0 : Int32))).2) k_) ?_
        show OwnEnds _ _ _ _ _ _ _ (T3.setTop (mkF m 135 #[.val (.int p1), .val (.int p2), .val (.int p3), .val (.int p4), .val (.int p5), .val (.ref c1), .val (.int (0 : Int32)), .val (.int a), .val (.int b), .val (.int k), .val (.int dd), .val (.int dd), .val (.double (FP.i2d dd)), .second, .val (.double (0 : UInt64)), .second] []))
        refine OwnEnds.st (fun t_ k_ => XS.iconst X3.here hx rfl (hb hby at_135) k_) ?_
        show OwnEnds _ _ _ _ _ _ _ (T3.setTop (mkF m 136 #[.val (.int p1), .val (.int p2), .val (.int p3), .val (.int p4), .val (.int p5), .val (.ref c1), .val (.int (0 : Int32)), .val (.int a), .val (.int b), .val (.int k), .val (.int dd), .val (.int dd), .val (.double (FP.i2d dd)), .second, .val (.double (0 : UInt64)), .second] [(.int (1 : Int32))]))
        refine OwnEnds.st (fun t_ k_ => XS.goto X3.here hx rfl (pc0 := 136) (pc' := 140) rfl (hb hby at_136) (by decide) (by decide) k_) ?_
        show OwnEnds _ _ _ _ _ _ _ (T3.setTop (mkF m 140 #[.val (.int p1), .val (.int p2), .val (.int p3), .val (.int p4), .val (.int p5), .val (.ref c1), .val (.int (0 : Int32)), .val (.int a), .val (.int b), .val (.int k), .val (.int dd), .val (.int dd), .val (.double (FP.i2d dd)), .second, .val (.double (0 : UInt64)), .second] [(.int (1 : Int32))]))
        refine own_retN (t := .boolean) X3 hx Bd.returns Bd.notSynchronized (by simp) (hb hby at_140) ?_ (by decide) (by decide)
        show Q0 Z p1 p2 p3 p4 p5 c1 d1 h0 n0 _ T3.heap _
        rw [e3]
        exact ⟨rfl, N2⟩
    · refine OwnEnds.st (fun t_ k_ => XS.ifNo X1.here hx rfl (hb hby at_20) rfl ((if0 _ _).trans (feq (hs2 : ¬ ((p1 &&& (2 : Int32)) = (0 : Int32)))).1) k_) ?_
      show OwnEnds _ _ _ _ _ _ _ (T1.setTop (mkF m 23 #[.val (.int p1), .val (.int p2), .val (.int p3), .val (.int p4), .val (.int p5), .val (.ref c1), .unset, .unset, .unset, .unset, .unset, .unset, .unset, .unset, .unset, .unset] []))
      refine OwnEnds.st (fun t_ k_ => XS.iconst X1.here hx rfl (hb hby at_23) k_) ?_
      show OwnEnds _ _ _ _ _ _ _ (T1.setTop (mkF m 24 #[.val (.int p1), .val (.int p2), .val (.int p3), .val (.int p4), .val (.int p5), .val (.ref c1), .unset, .unset, .unset, .unset, .unset, .unset, .unset, .unset, .unset, .unset] [(.int (1 : Int32))]))
      refine OwnEnds.st (fun t_ k_ => XS.goto X1.here hx rfl (pc0 := 24) (pc' := 28) rfl (hb hby at_24) (by decide) (by decide) k_) ?_
      show OwnEnds _ _ _ _ _ _ _ (T1.setTop (mkF m 28 #[.val (.int p1), .val (.int p2), .val (.int p3), .val (.int p4), .val (.int p5), .val (.ref c1), .unset, .unset, .unset, .unset, .unset, .unset, .unset, .unset, .unset, .unset] [(.int (1 : Int32))]))
      refine OwnEnds.st (fun t_ k_ => XS.istore X1.here hx rfl (hb hby at_28) rfl (l' := #[.val (.int p1), .val (.int p2), .val (.int p3), .val (.int p4), .val (.int p5), .val (.ref c1), .val (.int (1 : Int32)), .unset, .unset, .unset, .unset, .unset, .unset, .unset, .unset, .unset]) rfl k_) ?_
      show OwnEnds _ _ _ _ _ _ _ (T1.setTop (mkF m 30 #[.val (.int p1), .val (.int p2), .val (.int p3), .val (.int p4), .val (.int p5), .val (.ref c1), .val (.int (1 : Int32)), .unset, .unset, .unset, .unset, .unset, .unset, .unset, .unset, .unset] []))
      refine OwnEnds.st (fun t_ k_ => XS.iloadN X1.here hx rfl (hb hby at_30) rfl k_) ?_
      show OwnEnds _ _ _ _ _ _ _ (T1.setTop (mkF m 31 #[.val (.int p1), .val (.int p2), .val (.int p3), .val (.int p4), .val (.int p5), .val (.ref c1), .val (.int (1 : Int32)), .unset, .unset, .unset, .unset, .unset, .unset, .unset, .unset, .unset] [(.int p3)]))
      refine OwnEnds.st (fun t_ k_ => XS.bipush X1.here hx rfl (hb hby at_31) k_) ?_
      show OwnEnds _ _ _ _ _ _ _ (T1.setTop (mkF m 33 #[.val (.int p1), .val (.int p2), .val (.int p3), .val (.int p4), .val (.int p5), .val (.ref c1), .val (.int (1 : Int32)), .unset, .unset, .unset, .unset, .unset, .unset, .unset, .unset, .unset] [(.int (9 : Int32)), (.int p3)]))
      refine OwnEnds.st (fun t_ k_ => iremM X1 hx rfl (hb hby at_33) rfl (by decide) k_) ?_
      show OwnEnds _ _ _ _ _ _ _ (T1.setTop (mkF m 34 #[.val (.int p1), .val (.int p2), .val (.int p3), .val (.int p4), .val (.int p5), .val (.ref c1), .val (.int (1 : Int32)), .unset, .unset, .unset, .unset, .unset, .unset, .unset, .unset, .unset] [(.int (p3 % (9 : Int32)))]))
      refine OwnEnds.st (fun t_ k_ => XS.istore X1.here hx rfl (hb hby at_34) rfl (l' := #[.val (.int p1), .val (.int p2), .val (.int p3), .val (.int p4), .val (.int p5), .val (.ref c1), .val (.int (1 : Int32)), .val (.int (p3 % (9 : Int32))), .unset, .unset, .unset, .unset, .unset, .unset, .unset, .unset]) rfl k_) ?_
      show OwnEnds _ _ _ _ _ _ _ (T1.setTop (mkF m 36 #[.val (.int p1), .val (.int p2), .val (.int p3), .val (.int p4), .val (.int p5), .val (.ref c1), .val (.int (1 : Int32)), .val (.int (p3 % (9 : Int32))), .unset, .unset, .unset, .unset, .unset, .unset, .unset, .unset] []))
      refine OwnEnds.st (fun t_ k_ => XS.iloadN X1.here hx rfl (hb hby at_36) rfl k_) ?_
      show OwnEnds _ _ _ _ _ _ _ (T1.setTop (mkF m 37 #[.val (.int p1), .val (.int p2), .val (.int p3), .val (.int p4), .val (.int p5), .val (.ref c1), .val (.int (1 : Int32)), .val (.int (p3 % (9 : Int32))), .unset, .unset, .unset, .unset, .unset, .unset, .unset, .unset] [(.int p4)]))
      refine OwnEnds.st (fun t_ k_ => XS.bipush X1.here hx rfl (hb hby at_37) k_) ?_
      show OwnEnds _ _ _ _ _ _ _ (T1.setTop (mkF m 39 #[.val (.int p1), .val (.int p2), .val (.int p3), .val (.int p4), .val (.int p5), .val (.ref c1), .val (.int (1 : Int32)), .val (.int (p3 % (9 : Int32))), .unset, .unset, .unset, .unset, .unset, .unset, .unset, .unset] [(.int (9 : Int32)), (.int p4)]))
      refine OwnEnds.st (fun t_ k_ => iremM X1 hx rfl (hb hby at_39) rfl (by decide) k_) ?_
      show OwnEnds _ _ _ _ _ _ _ (T1.setTop (mkF m 40 #[.val (.int p1), .val (.int p2), .val (.int p3), .val (.int p4), .val (.int p5), .val (.ref c1), .val (.int (1 : Int32)), .val (.int (p3 % (9 : Int32))), .unset, .unset, .unset, .unset, .unset, .unset, .unset, .unset] [(.int (p4 % (9 : Int32)))]))
      refine OwnEnds.st (fun t_ k_ => XS.istore X1.here hx rfl (hb hby at_40) rfl (l' := #[.val (.int p1), .val (.int p2), .val (.int p3), .val (.int p4), .val (.int p5), .val (.ref c1), .val (.int (1 : Int32)), .val (.int (p3 % (9 : Int32))), .val (.int (p4 % (9 : Int32))), .unset, .unset, .unset, .unset, .unset, .unset, .unset]) rfl k_) ?_
      show OwnEnds _ _ _ _ _ _ _ (T1.setTop (mkF m 42 #[.val (.int p1), .val (.int p2), .val (.int p3), .val (.int p4), .val (.int p5), .val (.ref c1), .val (.int (1 : Int32)), .val (.int (p3 % (9 : Int32))), .val (.int (p4 % (9 : Int32))), .unset, .unset, .unset, .unset, .unset, .unset, .unset] []))
      refine OwnEnds.st (fun t_ k_ => XS.iloadN X1.here hx rfl (hb hby at_42) rfl k_) ?_
      show OwnEnds _ _ _ _ _ _ _ (T1.setTop (mkF m 43 #[.val (.int p1), .val (.int p2), .val (.int p3), .val (.int p4), .val (.int p5), .val (.ref c1), .val (.int (1 : Int32)), .val (.int (p3 % (9 : Int32))), .val (.int (p4 % (9 : Int32))), .unset, .unset, .unset, .unset, .unset, .unset, .unset] [(.int p2)]))
      refine OwnEnds.st (fun t_ k_ => XS.sipush X1.here hx rfl (hb hby at_43) k_) ?_
      show OwnEnds _ _ _ _ _ _ _ (T1.setTop (mkF m 46 #[.val (.int p1), .val (.int p2), .val (.int p3), .val (.int p4), .val (.int p5), .val (.ref c1), .val (.int (1 : Int32)), .val (.int (p3 % (9 : Int32))), .val (.int (p4 % (9 : Int32))), .unset, .unset, .unset, .unset, .unset, .unset, .unset] [(.int (1000 : Int32)), (.int p2)]))
      refine OwnEnds.st (fun t_ k_ => iremM X1 hx rfl (hb hby at_46) rfl (by decide) k_) ?_
      show OwnEnds _ _ _ _ _ _ _ (T1.setTop (mkF m 47 #[.val (.int p1), .val (.int p2), .val (.int p3), .val (.int p4), .val (.int p5), .val (.ref c1), .val (.int (1 : Int32)), .val (.int (p3 % (9 : Int32))), .val (.int (p4 % (9 : Int32))), .unset, .unset, .unset, .unset, .unset, .unset, .unset] [(.int (p2 % (1000 : Int32)))]))
      refine OwnEnds.st (fun t_ k_ => XS.istore X1.here hx rfl (hb hby at_47) rfl (l' := #[.val (.int p1), .val (.int p2), .val (.int p3), .val (.int p4), .val (.int p5), .val (.ref c1), .val (.int (1 : Int32)), .val (.int (p3 % (9 : Int32))), .val (.int (p4 % (9 : Int32))), .val (.int (p2 % (1000 : Int32))), .unset, .unset, .unset, .unset, .unset, .unset]) rfl k_) ?_
      show OwnEnds _ _ _ _ _ _ _ (T1.setTop (mkF m 49 #[.val (.int p1), .val (.int p2), .val (.int p3), .val (.int p4), .val (.int p5), .val (.ref c1), .val (.int (1 : Int32)), .val (.int (p3 % (9 : Int32))), .val (.int (p4 % (9 : Int32))), .val (.int (p2 % (1000 : Int32))), .unset, .unset, .unset, .unset, .unset, .unset] []))
      refine OwnEnds.st (fun t_ k_ => XS.iload X1.here hx rfl (hb hby at_49) rfl k_) ?_
      show OwnEnds _ _ _ _ _ _ _ (T1.setTop (mkF m 51 #[.val (.int p1), .val (.int p2), .val (.int p3), .val (.int p4), .val (.int p5), .val (.ref c1), .val (.int (1 : Int32)), .val (.int (p3 % (9 : Int32))), .val (.int (p4 % (9 : Int32))), .val (.int (p2 % (1000 : Int32))), .unset, .unset, .unset, .unset, .unset, .unset] [(.int p5)]))
      refine OwnEnds.st (fun t_ k_ => X1.ldcInt hx hown (mvT hZ (hw _ (List.mem_of_getElem? (i := 3) rfl))) (g := (mkF m 51 #[.val (.int p1), .val (.int p2), .val (.int p3), .val (.int p4), .val (.int p5), .val (.ref c1), .val (.int (1 : Int32)), .val (.int (p3 % (9 : Int32))), .val (.int (p4 % (9 : Int32))), .val (.int (p2 % (1000 : Int32))), .unset, .unset, .unset, .unset, .unset, .unset] [(.int p5)])) rfl (hb hby at_51) t_ k_) ?_
      show OwnEnds _ _ _ _ _ _ _ (T1.setTop (mkF m 53 #[.val (.int p1), .val (.int p2), .val (.int p3), .val (.int p4), .val (.int p5), .val (.ref c1), .val (.int (1 : Int32)), .val (.int (p3 % (9 : Int32))), .val (.int (p4 % (9 : Int32))), .val (.int (p2 % (1000 : Int32))), .unset, .unset, .unset, .unset, .unset, .unset] [(.int (1000000 : Int32)), (.int p5)]))
      refine OwnEnds.st (fun t_ k_ => iremM X1 hx rfl (hb hby at_53) rfl (by decide) k_) ?_
      show OwnEnds _ _ _ _ _ _ _ (T1.setTop (mkF m 54 #[.val (.int p1), .val (.int p2), .val (.int p3), .val (.int p4), .val (.int p5), .val (.ref c1), .val (.int (1 : Int32)), .val (.int (p3 % (9 : Int32))), .val (.int (p4 % (9 : Int32))), .val (.int (p2 % (1000 : Int32))), .unset, .unset, .unset, .unset, .unset, .unset] [(.int (p5 % (1000000 : Int32)))]))
      refine OwnEnds.st (fun t_ k_ => XS.istore X1.here hx rfl (hb hby at_54) rfl (l' := #[.val (.int p1), .val (.int p2), .val (.int p3), .val (.int p4), .val (.int p5), .val (.ref c1), .val (.int (1 : Int32)), .val (.int (p3 % (9 : Int32))), .val (.int (p4 % (9 : Int32))), .val (.int (p2 % (1000 : Int32))), .val (.int (p5 % (1000000 : Int32))), .unset, .unset, .unset, .unset, .unset]) rfl k_) ?_
      show OwnEnds _ _ _ _ _ _ _ (T1.setTop (mkF m 56 #[.val (.int p1), .val (.int p2), .val (.int p3), .val (.int p4), .val (.int p5), .val (.ref c1), .val (.int (1 : Int32)), .val (.int (p3 % (9 : Int32))), .val (.int (p4 % (9 : Int32))), .val (.int (p2 % (1000 : Int32))), .val (.int (p5 % (1000000 : Int32))), .unset, .unset, .unset, .unset, .unset] []))
      obtain ⟨a, ea⟩ : ∃ z, z = (p3 % (9 : Int32)) := ⟨_, rfl⟩
      obtain ⟨b, eb⟩ : ∃ z, z = (p4 % (9 : Int32)) := ⟨_, rfl⟩
      obtain ⟨k, ek⟩ : ∃ z, z = (p2 % (1000 : Int32)) := ⟨_, rfl⟩
      obtain ⟨dd, edd⟩ : ∃ z, z = (p5 % (1000000 : Int32)) := ⟨_, rfl⟩
      rw [← ea, ← eb, ← ek, ← edd]
      have ha9 : a.toInt < 9 := by rw [ea]; exact (own_mod (by decide) (by decide)).2
      have hb9 : b.toInt < 9 := by rw [eb]; exact (own_mod (by decide) (by decide)).2
      have hk9 : -1000 < k.toInt ∧ k.toInt < 1000 := by rw [ek]; exact own_mod (by decide) (by decide)
      refine OwnEnds.st (fun t_ k_ => XS.iload X1.here hx rfl (hb hby at_56) rfl k_) ?_
      show OwnEnds _ _ _ _ _ _ _ (T1.setTop (mkF m 58 #[.val (.int p1), .val (.int p2), .val (.int p3), .val (.int p4), .val (.int p5), .val (.ref c1), .val (.int (1 : Int32)), .val (.int a), .val (.int b), .val (.int k), .val (.int dd), .unset, .unset, .unset, .unset, .unset] [(.int (1 : Int32))]))
      refine OwnEnds.st (fun t_ k_ => XS.ifNo X1.here hx rfl (hb hby at_58) rfl ((if0 _ _).trans (feq ((by decide) : ¬ ((1 : Int32) = (0 : Int32)))).1) k_) ?_
      show OwnEnds _ _ _ _ _ _ _ (T1.setTop (mkF m 61 #[.val (.int p1), .val (.int p2), .val (.int p3), .val (.int p4), .val (.int p5), .val (.ref c1), .val (.int (1 : Int32)), .val (.int a), .val (.int b), .val (.int k), .val (.int dd), .unset, .unset, .unset, .unset, .unset] []))
      refine OwnEnds.st (fun t_ k_ => XS.iload X1.here hx rfl (hb hby at_61) rfl k_) ?_
      show OwnEnds _ _ _ _ _ _ _ (T1.setTop (mkF m 63 #[.val (.int p1), .val (.int p2), .val (.int p3), .val (.int p4), .val (.int p5), .val (.ref c1), .val (.int (1 : Int32)), .val (.int a), .val (.int b), .val (.int k), .val (.int dd), .unset, .unset, .unset, .unset, .unset] [(.int k)]))
      refine OwnEnds.st (fun t_ k_ => XS.iload X1.here hx rfl (hb hby at_63) rfl k_) ?_
      show OwnEnds _ _ _ _ _ _ _ (T1.setTop (mkF m 65 #[.val (.int p1), .val (.int p2), .val (.int p3), .val (.int p4), .val (.int p5), .val (.ref c1), .val (.int (1 : Int32)), .val (.int a), .val (.int b), .val (.int k), .val (.int dd), .unset, .unset, .unset, .unset, .unset] [(.int a), (.int k)]))
      refine OwnEnds.st (fun t_ k_ => XS.imul X1.here hx rfl (hb hby at_65) rfl k_) ?_
      show OwnEnds _ _ _ _ _ _ _ (T1.setTop (mkF m 66 #[.val (.int p1), .val (.int p2), .val (.int p3), .val (.int p4), .val (.int p5), .val (.ref c1), .val (.int (1 : Int32)), .val (.int a), .val (.int b), .val (.int k), .val (.int dd), .unset, .unset, .unset, .unset, .unset] [(.int (k * a))]))
      refine OwnEnds.st (fun t_ k_ => XS.iload X1.here hx rfl (hb hby at_66) rfl k_) ?_
      show OwnEnds _ _ _ _ _ _ _ (T1.setTop (mkF m 68 #[.val (.int p1), .val (.int p2), .val (.int p3), .val (.int p4), .val (.int p5), .val (.ref c1), .val (.int (1 : Int32)), .val (.int a), .val (.int b), .val (.int k), .val (.int dd), .unset, .unset, .unset, .unset, .unset] [(.int b), (.int (k * a))]))
      refine OwnEnds.st (fun t_ k_ => XS.imul X1.here hx rfl (hb hby at_68) rfl k_) ?_
      show OwnEnds _ _ _ _ _ _ _ (T1.setTop (mkF m 69 #[.val (.int p1), .val (.int p2), .val (.int p3), .val (.int p4), .val (.int p5), .val (.ref c1), .val (.int (1 : Int32)), .val (.int a), .val (.int b), .val (.int k), .val (.int dd), .unset, .unset, .unset, .unset, .unset] [(.int ((k * a) * b))]))
      refine OwnEnds.st (fun t_ k_ => XS.goto X1.here hx rfl (pc0 := 69) (pc' := 74) rfl (hb hby at_69) (by decide) (by decide) k_) ?_
      show OwnEnds _ _ _ _ _ _ _ (T1.setTop (mkF m 74 #[.val (.int p1), .val (.int p2), .val (.int p3), .val (.int p4), .val (.int p5), .val (.ref c1), .val (.int (1 : Int32)), .val (.int a), .val (.int b), .val (.int k), .val (.int dd), .unset, .unset, .unset, .unset, .unset] [(.int ((k * a) * b))]))
      refine OwnEnds.st (fun t_ k_ => XS.istore X1.here hx rfl (hb hby at_74) rfl (l' := #[.val (.int p1), .val (.int p2), .val (.int p3), .val (.int p4), .val (.int p5), .val (.ref c1), .val (.int (1 : Int32)), .val (.int a), .val (.int b), .val (.int k), .val (.int dd), .val (.int ((k * a) * b)), .unset, .unset, .unset, .unset]) rfl k_) ?_
      show OwnEnds _ _ _ _ _ _ _ (T1.setTop (mkF m 76 #[.val (.int p1), .val (.int p2), .val (.int p3), .val (.int p4), .val (.int p5), .val (.ref c1), .val (.int (1 : Int32)), .val (.int a), .val (.int b), .val (.int k), .val (.int dd), .val (.int ((k * a) * b)), .unset, .unset, .unset, .unset] []))
      refine OwnEnds.st (fun t_ k_ => XS.iload X1.here hx rfl (hb hby at_76) rfl k_) ?_
      show OwnEnds _ _ _ _ _ _ _ (T1.setTop (mkF m 78 #[.val (.int p1), .val (.int p2), .val (.int p3), .val (.int p4), .val (.int p5), .val (.ref c1), .val (.int (1 : Int32)), .val (.int a), .val (.int b), .val (.int k), .val (.int dd), .val (.int ((k * a) * b)), .unset, .unset, .unset, .unset] [(.int ((k * a) * b))]))
      refine OwnEnds.st (fun t_ k_ => XS.i2dS X1.here hx rfl (hb hby at_78) rfl rfl k_) ?_
      show OwnEnds _ _ _ _ _ _ _ (T1.setTop (mkF m 79 #[.val (.int p1), .val (.int p2), .val (.int p3), .val (.int p4), .val (.int p5), .val (.ref c1), .val (.int (1 : Int32)), .val (.int a), .val (.int b), .val (.int k), .val (.int dd), .val (.int ((k * a) * b)), .unset, .unset, .unset, .unset] [(.double (FP.i2d ((k * a) * b)))]))
      refine OwnEnds.st (fun t_ k_ => XS.dstore X1.here hx rfl (hb hby at_79) rfl (l' := #[.val (.int p1), .val (.int p2), .val (.int p3), .val (.int p4), .val (.int p5), .val (.ref c1), .val (.int (1 : Int32)), .val (.int a), .val (.int b), .val (.int k), .val (.int dd), .val (.int ((k * a) * b)), .val (.double (FP.i2d ((k * a) * b))), .second, .unset, .unset]) rfl k_) ?_
      show OwnEnds _ _ _ _ _ _ _ (T1.setTop (mkF m 81 #[.val (.int p1), .val (.int p2), .val (.int p3), .val (.int p4), .val (.int p5), .val (.ref c1), .val (.int (1 : Int32)), .val (.int a), .val (.int b), .val (.int k), .val (.int dd), .val (.int ((k * a) * b)), .val (.double (FP.i2d ((k * a) * b))), .second, .unset, .unset] []))
      refine OwnEnds.st (fun t_ k_ => XS.aload X1.here hx rfl (hb hby at_81) rfl rfl k_) ?_
      show OwnEnds _ _ _ _ _ _ _ (T1.setTop (mkF m 83 #[.val (.int p1), .val (.int p2), .val (.int p3), .val (.int p4), .val (.int p5), .val (.ref c1), .val (.int (1 : Int32)), .val (.int a), .val (.int b), .val (.int k), .val (.int dd), .val (.int ((k * a) * b)), .val (.double (FP.i2d ((k * a) * b))), .second, .unset, .unset] [(.ref c1)]))
      refine OwnEnds.st (fun t_ k_ => XS.dload X1.here hx rfl (hb hby at_83) rfl k_) ?_
      show OwnEnds _ _ _ _ _ _ _ (T1.setTop (mkF m 85 #[.val (.int p1), .val (.int p2), .val (.int p3), .val (.int p4), .val (.int p5), .val (.ref c1), .val (.int (1 : Int32)), .val (.int a), .val (.int b), .val (.int k), .val (.int dd), .val (.int ((k * a) * b)), .val (.double (FP.i2d ((k * a) * b))), .second, .unset, .unset] [(.double (FP.i2d ((k * a) * b))), (.ref c1)]))
      refine OwnEnds.st (fun t_ k_ => XS.iload X1.here hx rfl (hb hby at_85) rfl k_) ?_
      show OwnEnds _ _ _ _ _ _ _ (T1.setTop (mkF m 87 #[.val (.int p1), .val (.int p2), .val (.int p3), .val (.int p4), .val (.int p5), .val (.ref c1), .val (.int (1 : Int32)), .val (.int a), .val (.int b), .val (.int k), .val (.int dd), .val (.int ((k * a) * b)), .val (.double (FP.i2d ((k * a) * b))), .second, .unset, .unset] [(.int a), (.double (FP.i2d ((k * a) * b))), (.ref c1)]))
      refine OwnEnds.st (fun t_ k_ => XS.i2dS X1.here hx rfl (hb hby at_87) rfl rfl k_) ?_
      show OwnEnds _ _ _ _ _ _ _ (T1.setTop (mkF m 88 #[.val (.int p1), .val (.int p2), .val (.int p3), .val (.int p4), .val (.int p5), .val (.ref c1), .val (.int (1 : Int32)), .val (.int a), .val (.int b), .val (.int k), .val (.int dd), .val (.int ((k * a) * b)), .val (.double (FP.i2d ((k * a) * b))), .second, .unset, .unset] [(.double (FP.i2d a)), (.double (FP.i2d ((k * a) * b))), (.ref c1)]))
      refine OwnEnds.st (fun t_ k_ => XS.iload X1.here hx rfl (hb hby at_88) rfl k_) ?_
      show OwnEnds _ _ _ _ _ _ _ (T1.setTop (mkF m 90 #[.val (.int p1), .val (.int p2), .val (.int p3), .val (.int p4), .val (.int p5), .val (.ref c1), .val (.int (1 : Int32)), .val (.int a), .val (.int b), .val (.int k), .val (.int dd), .val (.int ((k * a) * b)), .val (.double (FP.i2d ((k * a) * b))), .second, .unset, .unset] [(.int b), (.double (FP.i2d a)), (.double (FP.i2d ((k * a) * b))), (.ref c1)]))
      refine OwnEnds.st (fun t_ k_ => XS.i2dS X1.here hx rfl (hb hby at_90) rfl rfl k_) ?_
      show OwnEnds _ _ _ _ _ _ _ (T1.setTop (mkF m 91 #[.val (.int p1), .val (.int p2), .val (.int p3), .val (.int p4), .val (.int p5), .val (.ref c1), .val (.int (1 : Int32)), .val (.int a), .val (.int b), .val (.int k), .val (.int dd), .val (.int ((k * a) * b)), .val (.double (FP.i2d ((k * a) * b))), .second, .unset, .unset] [(.double (FP.i2d b)), (.double (FP.i2d a)), (.double (FP.i2d ((k * a) * b))), (.ref c1)]))
      obtain ⟨cq4, kq4, q4a, q4b, q4c⟩ := isOf hZ e1 (E_c1)
      obtain ⟨_, _, ⟨T4, L4, k4, n4⟩, -, X4, ⟨Lc4, hQ4, l4, y4, z4⟩, st4⟩ := X1.virtualBack hx (y := (⟨"com/example/genius_loci/geniusloci/core/Similarity", "of", "(DDD)D"⟩ : MethodName)) (z := (⟨"com/example/genius_loci/geniusloci/core/Similarity", "of", "(DDD)D"⟩ : MethodName)) hown (mvT hZ (hw _ (List.mem_of_getElem? (i := 4) rfl))) (mvT hZ (hw _ (List.mem_of_getElem? (i := 5) rfl))) (notFace_of_selects (args := #[]) (mvT hZ (hw _ (List.mem_of_getElem? (i := 7) rfl)))) (mvT hZ (hw _ (List.mem_of_getElem? (i := 7) rfl))) (mvT hZ (hw _ (List.mem_of_getElem? (i := 6) rfl))) (by decide) (backOf (W := 0) (rm1 l Z a0 hw [] c1 0 ((k * a) * b) a b h0 n0 Z0 E_c1 F_c1 (Or.inl rfl) ha9 hb9) hZ (hw _ (List.mem_of_getElem? (i := 8) rfl)) (hw _ (List.mem_of_getElem? (i := 1) rfl)) (by decide) (by decide)) q4a q4c (g := (mkF m 91 #[.val (.int p1), .val (.int p2), .val (.int p3), .val (.int p4), .val (.int p5), .val (.ref c1), .val (.int (1 : Int32)), .val (.int a), .val (.int b), .val (.int k), .val (.int dd), .val (.int ((k * a) * b)), .val (.double (FP.i2d ((k * a) * b))), .second, .unset, .unset] [(.double (FP.i2d b)), (.double (FP.i2d a)), (.double (FP.i2d ((k * a) * b))), (.ref c1)])) rfl (by rw [hml]; rfl) (Steps.refl _) (argsL := [(.double (FP.i2d ((k * a) * b))), (.double (FP.i2d a)), (.double (FP.i2d b))]) (rest := []) (lenOf pd_1 rfl) rfl (by show 2 * 0 + _ ≤ _; exact Nat.le_of_eq rfl) (hb hby at_91) (fun _ _ => ⟨rfl, e1, (by decide : 0 + 0 ≤ _), (by decide : 0 + 0 ≤ _)⟩)
      dsimp only [Pt.U, Pt.locs, Pt.cells, Pt.slots] at X4 l4 y4 z4 st4 hQ4
      subst l4 y4 z4
      obtain ⟨rfl, N4q, hh4⟩ := hQ4
      have N4 := Fr.app N0 N4q
      refine OwnEnds.go st4 ?_
      show OwnEnds _ _ _ _ _ _ _ (T4.setTop (mkF m 94 #[.val (.int p1), .val (.int p2), .val (.int p3), .val (.int p4), .val (.int p5), .val (.ref c1), .val (.int (1 : Int32)), .val (.int a), .val (.int b), .val (.int k), .val (.int dd), .val (.int ((k * a) * b)), .val (.double (FP.i2d ((k * a) * b))), .second, .unset, .unset] [(.double (own_of 0 ((k * a) * b) a b))]))
      refine OwnEnds.st (fun t_ k_ => XS.dstore X4.here hx rfl (hb hby at_94) rfl (l' := #[.val (.int p1), .val (.int p2), .val (.int p3), .val (.int p4), .val (.int p5), .val (.ref c1), .val (.int (1 : Int32)), .val (.int a), .val (.int b), .val (.int k), .val (.int dd), .val (.int ((k * a) * b)), .val (.double (FP.i2d ((k * a) * b))), .second, .val (.double (own_of 0 ((k * a) * b) a b)), .second]) rfl k_) ?_
      show OwnEnds _ _ _ _ _ _ _ (T4.setTop (mkF m 96 #[.val (.int p1), .val (.int p2), .val (.int p3), .val (.int p4), .val (.int p5), .val (.ref c1), .val (.int (1 : Int32)), .val (.int a), .val (.int b), .val (.int k), .val (.int dd), .val (.int ((k * a) * b)), .val (.double (FP.i2d ((k * a) * b))), .second, .val (.double (own_of 0 ((k * a) * b) a b)), .second] []))
      refine OwnEnds.st (fun t_ k_ => XS.aload X4.here hx rfl (hb hby at_96) rfl rfl k_) ?_
      show OwnEnds _ _ _ _ _ _ _ (T4.setTop (mkF m 98 #[.val (.int p1), .val (.int p2), .val (.int p3), .val (.int p4), .val (.int p5), .val (.ref c1), .val (.int (1 : Int32)), .val (.int a), .val (.int b), .val (.int k), .val (.int dd), .val (.int ((k * a) * b)), .val (.double (FP.i2d ((k * a) * b))), .second, .val (.double (own_of 0 ((k * a) * b) a b)), .second] [(.ref c1)]))
      obtain ⟨T5, X5, e5, st5⟩ := getS2 X4 hx hZ hown (host := "") (Or.inl (hw _ (List.mem_of_getElem? (i := 18) rfl))) Via.refl hh4 S_d (g := (mkF m 98 #[.val (.int p1), .val (.int p2), .val (.int p3), .val (.int p4), .val (.int p5), .val (.ref c1), .val (.int (1 : Int32)), .val (.int a), .val (.int b), .val (.int k), .val (.int dd), .val (.int ((k * a) * b)), .val (.double (FP.i2d ((k * a) * b))), .second, .val (.double (own_of 0 ((k * a) * b) a b)), .second] [(.ref c1)])) rfl (hb hby at_98)
      refine OwnEnds.st st5 ?_
      show OwnEnds _ _ _ _ _ _ _ (T5.setTop (mkF m 101 #[.val (.int p1), .val (.int p2), .val (.int p3), .val (.int p4), .val (.int p5), .val (.ref c1), .val (.int (1 : Int32)), .val (.int a), .val (.int b), .val (.int k), .val (.int dd), .val (.int ((k * a) * b)), .val (.double (FP.i2d ((k * a) * b))), .second, .val (.double (own_of 0 ((k * a) * b) a b)), .second] [(.ref d1), (.ref c1)]))
      refine OwnEnds.st (fun t_ k_ => Jvm.RoadKit.acmp (g := (mkF m 101 #[.val (.int p1), .val (.int p2), .val (.int p3), .val (.int p4), .val (.int p5), .val (.ref c1), .val (.int (1 : Int32)), .val (.int a), .val (.int b), .val (.int k), .val (.int dd), .val (.int ((k * a) * b)), .val (.double (FP.i2d ((k * a) * b))), .second, .val (.double (own_of 0 ((k * a) * b) a b)), .second] [(.ref d1), (.ref c1)])) X5 hx rfl rfl rfl (pc0 := 101) (pc' := 118) (same := false) rfl (hb hby at_101) rfl (decide_eq_false fun q => hne (Value.ref.inj q)) (by decide) (by decide) k_) ?_
      show OwnEnds _ _ _ _ _ _ _ (T5.setTop (mkF m 118 #[.val (.int p1), .val (.int p2), .val (.int p3), .val (.int p4), .val (.int p5), .val (.ref c1), .val (.int (1 : Int32)), .val (.int a), .val (.int b), .val (.int k), .val (.int dd), .val (.int ((k * a) * b)), .val (.double (FP.i2d ((k * a) * b))), .second, .val (.double (own_of 0 ((k * a) * b) a b)), .second] []))
      refine OwnEnds.st (fun t_ k_ => XS.iload X5.here hx rfl (hb hby at_118) rfl k_) ?_
      show OwnEnds _ _ _ _ _ _ _ (T5.setTop (mkF m 120 #[.val (.int p1), .val (.int p2), .val (.int p3), .val (.int p4), .val (.int p5), .val (.ref c1), .val (.int (1 : Int32)), .val (.int a), .val (.int b), .val (.int k), .val (.int dd), .val (.int ((k * a) * b)), .val (.double (FP.i2d ((k * a) * b))), .second, .val (.double (own_of 0 ((k * a) * b) a b)), .second] [(.int a)]))
      by_cases ha : (0 : Int32) < a
      · refine OwnEnds.st (fun t_ k_ => XS.ifNo X5.here hx rfl (hb hby at_120) rfl ((if0 _ _).trans (tlt (ha : (0 : Int32) < a)).2.2.2) k_) ?_
        show OwnEnds _ _ _ _ _ _ _ (T5.setTop (mkF m 123 #[.val (.int p1), .val (.int p2), .val (.int p3), .val (.int p4), .val (.int p5), .val (.ref c1), .val (.int (1 : Int32)), .val (.int a), .val (.int b), .val (.int k), .val (.int dd), .val (.int ((k * a) * b)), .val (.double (FP.i2d ((k * a) * b))), .second, .val (.double (own_of 0 ((k * a) * b) a b)), .second] []))
        refine OwnEnds.st (fun t_ k_ => XS.iload X5.here hx rfl (hb hby at_123) rfl k_) ?_
        show OwnEnds _ _ _ _ _ _ _ (T5.setTop (mkF m 125 #[.val (.int p1), .val (.int p2), .val (.int p3), .val (.int p4), .val (.int p5), .val (.ref c1), .val (.int (1 : Int32)), .val (.int a), .val (.int b), .val (.int k), .val (.int dd), .val (.int ((k * a) * b)), .val (.double (FP.i2d ((k * a) * b))), .second, .val (.double (own_of 0 ((k * a) * b) a b)), .second] [(.int b)]))
        by_cases hb1 : (0 : Int32) < b
        · rw [own_of0 rfl ha hb1]
          obtain ⟨n, en⟩ : ∃ z, z = (a.toInt64 * b.toInt64) := ⟨_, rfl⟩
          have hn1 : 1 ≤ n.toInt := by rw [en, (own_abI ha hb1 ha9 hb9).1]; exact (own_abI ha hb1 ha9 hb9).2.1
          have hn2 : n.toInt ≤ 64 := by rw [en, (own_abI ha hb1 ha9 hb9).1]; exact (own_abI ha hb1 ha9 hb9).2.2
          rw [← en]
          refine OwnEnds.st (fun t_ k_ => XS.ifYes X5.here hx rfl (pc0 := 125) (pc' := 141) rfl (hb hby at_125) rfl ((if0 _ _).trans (tlt (hb1 : (0 : Int32) < b)).2.2.1) (by decide) (by decide) k_) ?_
          show OwnEnds _ _ _ _ _ _ _ (T5.setTop (mkF m 141 #[.val (.int p1), .val (.int p2), .val (.int p3), .val (.int p4), .val (.int p5), .val (.ref c1), .val (.int (1 : Int32)), .val (.int a), .val (.int b), .val (.int k), .val (.int dd), .val (.int ((k * a) * b)), .val (.double (FP.i2d ((k * a) * b))), .second, .val (.double (FP.ddiv (FP.i2d ((k * a) * b)) (FP.l2d n))), .second] []))
          refine OwnEnds.st (fun t_ k_ => XS.iload X5.here hx rfl (hb hby at_141) rfl k_) ?_
          show OwnEnds _ _ _ _ _ _ _ (T5.setTop (mkF m 143 #[.val (.int p1), .val (.int p2), .val (.int p3), .val (.int p4), .val (.int p5), .val (.ref c1), .val (.int (1 : Int32)), .val (.int a), .val (.int b), .val (.int k), .val (.int dd), .val (.int ((k * a) * b)), .val (.double (FP.i2d ((k * a) * b))), .second, .val (.double (FP.ddiv (FP.i2d ((k * a) * b)) (FP.l2d n))), .second] [(.int (1 : Int32))]))
          refine OwnEnds.st (fun t_ k_ => XS.ifNo X5.here hx rfl (hb hby at_143) rfl ((if0 _ _).trans (feq ((by decide) : ¬ ((1 : Int32) = (0 : Int32)))).1) k_) ?_
          show OwnEnds _ _ _ _ _ _ _ (T5.setTop (mkF m 146 #[.val (.int p1), .val (.int p2), .val (.int p3), .val (.int p4), .val (.int p5), .val (.ref c1), .val (.int (1 : Int32)), .val (.int a), .val (.int b), .val (.int k), .val (.int dd), .val (.int ((k * a) * b)), .val (.double (FP.i2d ((k * a) * b))), .second, .val (.double (FP.ddiv (FP.i2d ((k * a) * b)) (FP.l2d n))), .second] []))
          refine OwnEnds.st (fun t_ k_ => XS.dload X5.here hx rfl (hb hby at_146) rfl k_) ?_
          show OwnEnds _ _ _ _ _ _ _ (T5.setTop (mkF m 148 #[.val (.int p1), .val (.int p2), .val (.int p3), .val (.int p4), .val (.int p5), .val (.ref c1), .val (.int (1 : Int32)), .val (.int a), .val (.int b), .val (.int k), .val (.int dd), .val (.int ((k * a) * b)), .val (.double (FP.i2d ((k * a) * b))), .second, .val (.double (FP.ddiv (FP.i2d ((k * a) * b)) (FP.l2d n))), .second] [(.double (FP.ddiv (FP.i2d ((k * a) * b)) (FP.l2d n)))]))
          refine OwnEnds.st (fun t_ k_ => XS.iload X5.here hx rfl (hb hby at_148) rfl k_) ?_
          show OwnEnds _ _ _ _ _ _ _ (T5.setTop (mkF m 150 #[.val (.int p1), .val (.int p2), .val (.int p3), .val (.int p4), .val (.int p5), .val (.ref c1), .val (.int (1 : Int32)), .val (.int a), .val (.int b), .val (.int k), .val (.int dd), .val (.int ((k * a) * b)), .val (.double (FP.i2d ((k * a) * b))), .second, .val (.double (FP.ddiv (FP.i2d ((k * a) * b)) (FP.l2d n))), .second] [(.int k), (.double (FP.ddiv (FP.i2d ((k * a) * b)) (FP.l2d n)))]))
          refine OwnEnds.st (fun t_ k_ => XS.i2dS X5.here hx rfl (hb hby at_150) rfl rfl k_) ?_
          show OwnEnds _ _ _ _ _ _ _ (T5.setTop (mkF m 151 #[.val (.int p1), .val (.int p2), .val (.int p3), .val (.int p4), .val (.int p5), .val (.ref c1), .val (.int (1 : Int32)), .val (.int a), .val (.int b), .val (.int k), .val (.int dd), .val (.int ((k * a) * b)), .val (.double (FP.i2d ((k * a) * b))), .second, .val (.double (FP.ddiv (FP.i2d ((k * a) * b)) (FP.l2d n))), .second] [(.double (FP.i2d k)), (.double (FP.ddiv (FP.i2d ((k * a) * b)) (FP.l2d n)))]))
          refine OwnEnds.st (fun t_ k_ => XS.dcmpS X5.here hx rfl (hb hby at_151) rfl (own_ceq (own_exact hn1 hn2 (by rw [own_kab hk9 ha hb1 ha9 hb9, en]))) k_) ?_
          show OwnEnds _ _ _ _ _ _ _ (T5.setTop (mkF m 152 #[.val (.int p1), .val (.int p2), .val (.int p3), .val (.int p4), .val (.int p5), .val (.ref c1), .val (.int (1 : Int32)), .val (.int a), .val (.int b), .val (.int k), .val (.int dd), .val (.int ((k * a) * b)), .val (.double (FP.i2d ((k * a) * b))), .second, .val (.double (FP.ddiv (FP.i2d ((k * a) * b)) (FP.l2d n))), .second] [(.int (0 : Int32))]))
          refine OwnEnds.st (fun t_ k_ => XS.ifNo X5.here hx rfl (hb hby at_152) rfl ((if0 _ _).trans (teq (rfl : (0 : Int32) = (0 : Int32))).2) k_) ?_
          show OwnEnds _ _ _ _ _ _ _ (T5.setTop (mkF m 155 #[.val (.int p1), .val (.int p2), .val (.int p3), .val (.int p4), .val (.int p5), .val (.ref c1), .val (.int (1 : Int32)), .val (.int a), .val (.int b), .val (.int k), .val (.int dd), .val (.int ((k * a) * b)), .val (.double (FP.i2d ((k * a) * b))), .second, .val (.double (FP.ddiv (FP.i2d ((k * a) * b)) (FP.l2d n))), .second] []))
          refine OwnEnds.st (fun t_ k_ => XS.iconst X5.here hx rfl (hb hby at_155) k_) ?_
          show OwnEnds _ _ _ _ _ _ _ (T5.setTop (mkF m 156 #[.val (.int p1), .val (.int p2), .val (.int p3), .val (.int p4), .val (.int p5), .val (.ref c1), .val (.int (1 : Int32)), .val (.int a), .val (.int b), .val (.int k), .val (.int dd), .val (.int ((k * a) * b)), .val (.double (FP.i2d ((k * a) * b))), .second, .val (.double (FP.ddiv (FP.i2d ((k * a) * b)) (FP.l2d n))), .second] [(.int (1 : Int32))]))
          refine OwnEnds.st (fun t_ k_ => XS.goto X5.here hx rfl (pc0 := 156) (pc' := 160) rfl (hb hby at_156) (by decide) (by decide) k_) ?_
          show OwnEnds _ _ _ _ _ _ _ (T5.setTop (mkF m 160 #[.val (.int p1), .val (.int p2), .val (.int p3), .val (.int p4), .val (.int p5), .val (.ref c1), .val (.int (1 : Int32)), .val (.int a), .val (.int b), .val (.int k), .val (.int dd), .val (.int ((k * a) * b)), .val (.double (FP.i2d ((k * a) * b))), .second, .val (.double (FP.ddiv (FP.i2d ((k * a) * b)) (FP.l2d n))), .second] [(.int (1 : Int32))]))
          refine own_retN (t := .boolean) X5 hx Bd.returns Bd.notSynchronized (by simp) (hb hby at_160) ?_ (by decide) (by decide)
          show Q0 Z p1 p2 p3 p4 p5 c1 d1 h0 n0 _ T5.heap _
          rw [e5]
          exact ⟨rfl, N4⟩
        · rw [own_ofz rfl (fun q => hb1 q.2)]
          refine OwnEnds.st (fun t_ k_ => XS.ifNo X5.here hx rfl (hb hby at_125) rfl ((if0 _ _).trans (flt (hb1 : ¬ ((0 : Int32) < b))).2.2.1) k_) ?_
          show OwnEnds _ _ _ _ _ _ _ (T5.setTop (mkF m 128 #[.val (.int p1), .val (.int p2), .val (.int p3), .val (.int p4), .val (.int p5), .val (.ref c1), .val (.int (1 : Int32)), .val (.int a), .val (.int b), .val (.int k), .val (.int dd), .val (.int ((k * a) * b)), .val (.double (FP.i2d ((k * a) * b))), .second, .val (.double (0 : UInt64)), .second] []))
          refine OwnEnds.st (fun t_ k_ => XS.dload X5.here hx rfl (hb hby at_128) rfl k_) ?_
          show OwnEnds _ _ _ _ _ _ _ (T5.setTop (mkF m 130 #[.val (.int p1), .val (.int p2), .val (.int p3), .val (.int p4), .val (.int p5), .val (.ref c1), .val (.int (1 : Int32)), .val (.int a), .val (.int b), .val (.int k), .val (.int dd), .val (.int ((k * a) * b)), .val (.double (FP.i2d ((k * a) * b))), .second, .val (.double (0 : UInt64)), .second] [(.double (0 : UInt64))]))
          refine OwnEnds.st (fun t_ k_ => XS.dconst0 X5.here hx rfl (hb hby at_130) rfl k_) ?_
          show OwnEnds _ _ _ _ _ _ _ (T5.setTop (mkF m 131 #[.val (.int p1), .val (.int p2), .val (.int p3), .val (.int p4), .val (.int p5), .val (.ref c1), .val (.int (1 : Int32)), .val (.int a), .val (.int b), .val (.int k), .val (.int dd), .val (.int ((k * a) * b)), .val (.double (FP.i2d ((k * a) * b))), .second, .val (.double (0 : UInt64)), .second] [(.double (0 : UInt64)), (.double (0 : UInt64))]))
          refine OwnEnds.st (fun t_ k_ => XS.dcmpS X5.here hx rfl (hb hby at_131) rfl own_self0 k_) ?_
          show OwnEnds _ _ _ _ _ _ _ (T5.setTop (mkF m 132 #[.val (.int p1), .val (.int p2), .val (.int p3), .val (.int p4), .val (.int p5), .val (.ref c1), .val (.int (1 : Int32)), .val (.int a), .val (.int b), .val (.int k), .val (.int dd), .val (.int ((k * a) * b)), .val (.double (FP.i2d ((k * a) * b))), .second, .val (.double (0 : UInt64)), .second] [(.int (0 : Int32))]))
          refine OwnEnds.st (fun t_ k_ => XS.ifNo X5.here hx rfl (hb hby at_132) rfl ((if0 _ _).trans (teq (rfl : (0 : Int32) = (0 : Int32))).2) k_) ?_
          show OwnEnds _ _ _ _ _ _ _ (T5.setTop (mkF m 135 #[.val (.int p1), .val (.int p2), .val (.int p3), .val (.int p4), .val (.int p5), .val (.ref c1), .val (.int (1 : Int32)), .val (.int a), .val (.int b), .val (.int k), .val (.int dd), .val (.int ((k * a) * b)), .val (.double (FP.i2d ((k * a) * b))), .second, .val (.double (0 : UInt64)), .second] []))
          refine OwnEnds.st (fun t_ k_ => XS.iconst X5.here hx rfl (hb hby at_135) k_) ?_
          show OwnEnds _ _ _ _ _ _ _ (T5.setTop (mkF m 136 #[.val (.int p1), .val (.int p2), .val (.int p3), .val (.int p4), .val (.int p5), .val (.ref c1), .val (.int (1 : Int32)), .val (.int a), .val (.int b), .val (.int k), .val (.int dd), .val (.int ((k * a) * b)), .val (.double (FP.i2d ((k * a) * b))), .second, .val (.double (0 : UInt64)), .second] [(.int (1 : Int32))]))
          refine OwnEnds.st (fun t_ k_ => XS.goto X5.here hx rfl (pc0 := 136) (pc' := 140) rfl (hb hby at_136) (by decide) (by decide) k_) ?_
          show OwnEnds _ _ _ _ _ _ _ (T5.setTop (mkF m 140 #[.val (.int p1), .val (.int p2), .val (.int p3), .val (.int p4), .val (.int p5), .val (.ref c1), .val (.int (1 : Int32)), .val (.int a), .val (.int b), .val (.int k), .val (.int dd), .val (.int ((k * a) * b)), .val (.double (FP.i2d ((k * a) * b))), .second, .val (.double (0 : UInt64)), .second] [(.int (1 : Int32))]))
          refine own_retN (t := .boolean) X5 hx Bd.returns Bd.notSynchronized (by simp) (hb hby at_140) ?_ (by decide) (by decide)
          show Q0 Z p1 p2 p3 p4 p5 c1 d1 h0 n0 _ T5.heap _
          rw [e5]
          exact ⟨rfl, N4⟩
      · rw [own_ofz rfl (fun q => ha q.1)]
        refine OwnEnds.st (fun t_ k_ => XS.ifYes X5.here hx rfl (pc0 := 120) (pc' := 128) rfl (hb hby at_120) rfl ((if0 _ _).trans (flt (ha : ¬ ((0 : Int32) < a))).2.2.2) (by decide) (by decide) k_) ?_
        show OwnEnds _ _ _ _ _ _ _ (T5.setTop (mkF m 128 #[.val (.int p1), .val (.int p2), .val (.int p3), .val (.int p4), .val (.int p5), .val (.ref c1), .val (.int (1 : Int32)), .val (.int a), .val (.int b), .val (.int k), .val (.int dd), .val (.int ((k * a) * b)), .val (.double (FP.i2d ((k * a) * b))), .second, .val (.double (0 : UInt64)), .second] []))
        refine OwnEnds.st (fun t_ k_ => XS.dload X5.here hx rfl (hb hby at_128) rfl k_) ?_
        show OwnEnds _ _ _ _ _ _ _ (T5.setTop (mkF m 130 #[.val (.int p1), .val (.int p2), .val (.int p3), .val (.int p4), .val (.int p5), .val (.ref c1), .val (.int (1 : Int32)), .val (.int a), .val (.int b), .val (.int k), .val (.int dd), .val (.int ((k * a) * b)), .val (.double (FP.i2d ((k * a) * b))), .second, .val (.double (0 : UInt64)), .second] [(.double (0 : UInt64))]))
        refine OwnEnds.st (fun t_ k_ => XS.dconst0 X5.here hx rfl (hb hby at_130) rfl k_) ?_
        show OwnEnds _ _ _ _ _ _ _ (T5.setTop (mkF m 131 #[.val (.int p1), .val (.int p2), .val (.int p3), .val (.int p4), .val (.int p5), .val (.ref c1), .val (.int (1 : Int32)), .val (.int a), .val (.int b), .val (.int k), .val (.int dd), .val (.int ((k * a) * b)), .val (.double (FP.i2d ((k * a) * b))), .second, .val (.double (0 : UInt64)), .second] [(.double (0 : UInt64)), (.double (0 : UInt64))]))
        refine OwnEnds.st (fun t_ k_ => XS.dcmpS X5.here hx rfl (hb hby at_131) rfl own_self0 k_) ?_
        show OwnEnds _ _ _ _ _ _ _ (T5.setTop (mkF m 132 #[.val (.int p1), .val (.int p2), .val (.int p3), .val (.int p4), .val (.int p5), .val (.ref c1), .val (.int (1 : Int32)), .val (.int a), .val (.int b), .val (.int k), .val (.int dd), .val (.int ((k * a) * b)), .val (.double (FP.i2d ((k * a) * b))), .second, .val (.double (0 : UInt64)), .second] [(.int (0 : Int32))]))
        refine OwnEnds.st (fun t_ k_ => XS.ifNo X5.here hx rfl (hb hby at_132) rfl ((if0 _ _).trans (teq (rfl : (0 : Int32) = (0 : Int32))).2) k_) ?_
        show OwnEnds _ _ _ _ _ _ _ (T5.setTop (mkF m 135 #[.val (.int p1), .val (.int p2), .val (.int p3), .val (.int p4), .val (.int p5), .val (.ref c1), .val (.int (1 : Int32)), .val (.int a), .val (.int b), .val (.int k), .val (.int dd), .val (.int ((k * a) * b)), .val (.double (FP.i2d ((k * a) * b))), .second, .val (.double (0 : UInt64)), .second] []))
        refine OwnEnds.st (fun t_ k_ => XS.iconst X5.here hx rfl (hb hby at_135) k_) ?_
        show OwnEnds _ _ _ _ _ _ _ (T5.setTop (mkF m 136 #[.val (.int p1), .val (.int p2), .val (.int p3), .val (.int p4), .val (.int p5), .val (.ref c1), .val (.int (1 : Int32)), .val (.int a), .val (.int b), .val (.int k), .val (.int dd), .val (.int ((k * a) * b)), .val (.double (FP.i2d ((k * a) * b))), .second, .val (.double (0 : UInt64)), .second] [(.int (1 : Int32))]))
        refine OwnEnds.st (fun t_ k_ => XS.goto X5.here hx rfl (pc0 := 136) (pc' := 140) rfl (hb hby at_136) (by decide) (by decide) k_) ?_
        show OwnEnds _ _ _ _ _ _ _ (T5.setTop (mkF m 140 #[.val (.int p1), .val (.int p2), .val (.int p3), .val (.int p4), .val (.int p5), .val (.ref c1), .val (.int (1 : Int32)), .val (.int a), .val (.int b), .val (.int k), .val (.int dd), .val (.int ((k * a) * b)), .val (.double (FP.i2d ((k * a) * b))), .second, .val (.double (0 : UInt64)), .second] [(.int (1 : Int32))]))
        refine own_retN (t := .boolean) X5 hx Bd.returns Bd.notSynchronized (by simp) (hb hby at_140) ?_ (by decide) (by decide)
        show Q0 Z p1 p2 p3 p4 p5 c1 d1 h0 n0 _ T5.heap _
        rw [e5]
        exact ⟨rfl, N4⟩
  · refine OwnEnds.st (fun t_ k_ => XS.ifYes X0.here hx rfl (pc0 := 3) (pc' := 12) rfl (hb hby at_3) rfl ((if0 _ _).trans (feq (hs1 : ¬ ((p1 &&& (1 : Int32)) = (0 : Int32)))).2) (by decide) (by decide) k_) ?_
    show OwnEnds _ _ _ _ _ _ _ (s₁.setTop (mkF m 12 #[.val (.int p1), .val (.int p2), .val (.int p3), .val (.int p4), .val (.int p5), .unset, .unset, .unset, .unset, .unset, .unset, .unset, .unset, .unset, .unset, .unset] []))
    obtain ⟨T6, X6, e6, st6⟩ := getS2 X0 hx hZ hown (host := "") (Or.inl (hw _ (List.mem_of_getElem? (i := 18) rfl))) Via.refl e0 S_d (g := (mkF m 12 #[.val (.int p1), .val (.int p2), .val (.int p3), .val (.int p4), .val (.int p5), .unset, .unset, .unset, .unset, .unset, .unset, .unset, .unset, .unset, .unset, .unset] [])) rfl (hb hby at_12)
    refine OwnEnds.st st6 ?_
    show OwnEnds _ _ _ _ _ _ _ (T6.setTop (mkF m 15 #[.val (.int p1), .val (.int p2), .val (.int p3), .val (.int p4), .val (.int p5), .unset, .unset, .unset, .unset, .unset, .unset, .unset, .unset, .unset, .unset, .unset] [(.ref d1)]))
    refine OwnEnds.st (fun t_ k_ => XS.astore X6.here hx rfl (hb hby at_15) rfl rfl (l' := #[.val (.int p1), .val (.int p2), .val (.int p3), .val (.int p4), .val (.int p5), .val (.ref d1), .unset, .unset, .unset, .unset, .unset, .unset, .unset, .unset, .unset, .unset]) rfl k_) ?_
    show OwnEnds _ _ _ _ _ _ _ (T6.setTop (mkF m 17 #[.val (.int p1), .val (.int p2), .val (.int p3), .val (.int p4), .val (.int p5), .val (.ref d1), .unset, .unset, .unset, .unset, .unset, .unset, .unset, .unset, .unset, .unset] []))
    refine OwnEnds.st (fun t_ k_ => XS.iloadN X6.here hx rfl (hb hby at_17) rfl k_) ?_
    show OwnEnds _ _ _ _ _ _ _ (T6.setTop (mkF m 18 #[.val (.int p1), .val (.int p2), .val (.int p3), .val (.int p4), .val (.int p5), .val (.ref d1), .unset, .unset, .unset, .unset, .unset, .unset, .unset, .unset, .unset, .unset] [(.int p1)]))
    refine OwnEnds.st (fun t_ k_ => XS.iconst X6.here hx rfl (hb hby at_18) k_) ?_
    show OwnEnds _ _ _ _ _ _ _ (T6.setTop (mkF m 19 #[.val (.int p1), .val (.int p2), .val (.int p3), .val (.int p4), .val (.int p5), .val (.ref d1), .unset, .unset, .unset, .unset, .unset, .unset, .unset, .unset, .unset, .unset] [(.int (2 : Int32)), (.int p1)]))
    refine OwnEnds.st (fun t_ k_ => XS.iand X6.here hx rfl (hb hby at_19) rfl k_) ?_
    show OwnEnds _ _ _ _ _ _ _ (T6.setTop (mkF m 20 #[.val (.int p1), .val (.int p2), .val (.int p3), .val (.int p4), .val (.int p5), .val (.ref d1), .unset, .unset, .unset, .unset, .unset, .unset, .unset, .unset, .unset, .unset] [(.int (p1 &&& (2 : Int32)))]))
    by_cases hs2 : (p1 &&& (2 : Int32)) = (0 : Int32)
    · refine OwnEnds.st (fun t_ k_ => XS.ifYes X6.here hx rfl (pc0 := 20) (pc' := 27) rfl (hb hby at_20) rfl ((if0 _ _).trans (teq (hs2 : (p1 &&& (2 : Int32)) = (0 : Int32))).1) (by decide) (by decide) k_) ?_
      show OwnEnds _ _ _ _ _ _ _ (T6.setTop (mkF m 27 #[.val (.int p1), .val (.int p2), .val (.int p3), .val (.int p4), .val (.int p5), .val (.ref d1), .unset, .unset, .unset, .unset, .unset, .unset, .unset, .unset, .unset, .unset] []))
      refine OwnEnds.st (fun t_ k_ => XS.iconst X6.here hx rfl (hb hby at_27) k_) ?_
      show OwnEnds _ _ _ _ _ _ _ (T6.setTop (mkF m 28 #[.val (.int p1), .val (.int p2), .val (.int p3), .val (.int p4), .val (.int p5), .val (.ref d1), .unset, .unset, .unset, .unset, .unset, .unset, .unset, .unset, .unset, .unset] [(.int (0 : Int32))]))
      refine OwnEnds.st (fun t_ k_ => XS.istore X6.here hx rfl (hb hby at_28) rfl (l' := #[.val (.int p1), .val (.int p2), .val (.int p3), .val (.int p4), .val (.int p5), .val (.ref d1), .val (.int (0 : Int32)), .unset, .unset, .unset, .unset, .unset, .unset, .unset, .unset, .unset]) rfl k_) ?_
      show OwnEnds _ _ _ _ _ _ _ (T6.setTop (mkF m 30 #[.val (.int p1), .val (.int p2), .val (.int p3), .val (.int p4), .val (.int p5), .val (.ref d1), .val (.int (0 : Int32)), .unset, .unset, .unset, .unset, .unset, .unset, .unset, .unset, .unset] []))
      refine OwnEnds.st (fun t_ k_ => XS.iloadN X6.here hx rfl (hb hby at_30) rfl k_) ?_
      show OwnEnds _ _ _ _ _ _ _ (T6.setTop (mkF m 31 #[.val (.int p1), .val (.int p2), .val (.int p3), .val (.int p4), .val (.int p5), .val (.ref d1), .val (.int (0 : Int32)), .unset, .unset, .unset, .unset, .unset, .unset, .unset, .unset, .unset] [(.int p3)]))
      refine OwnEnds.st (fun t_ k_ => XS.bipush X6.here hx rfl (hb hby at_31) k_) ?_
      show OwnEnds _ _ _ _ _ _ _ (T6.setTop (mkF m 33 #[.val (.int p1), .val (.int p2), .val (.int p3), .val (.int p4), .val (.int p5), .val (.ref d1), .val (.int (0 : Int32)), .unset, .unset, .unset, .unset, .unset, .unset, .unset, .unset, .unset] [(.int (9 : Int32)), (.int p3)]))
      refine OwnEnds.st (fun t_ k_ => iremM X6 hx rfl (hb hby at_33) rfl (by decide) k_) ?_
      show OwnEnds _ _ _ _ _ _ _ (T6.setTop (mkF m 34 #[.val (.int p1), .val (.int p2), .val (.int p3), .val (.int p4), .val (.int p5), .val (.ref d1), .val (.int (0 : Int32)), .unset, .unset, .unset, .unset, .unset, .unset, .unset, .unset, .unset] [(.int (p3 % (9 : Int32)))]))
      refine OwnEnds.st (fun t_ k_ => XS.istore X6.here hx rfl (hb hby at_34) rfl (l' := #[.val (.int p1), .val (.int p2), .val (.int p3), .val (.int p4), .val (.int p5), .val (.ref d1), .val (.int (0 : Int32)), .val (.int (p3 % (9 : Int32))), .unset, .unset, .unset, .unset, .unset, .unset, .unset, .unset]) rfl k_) ?_
      show OwnEnds _ _ _ _ _ _ _ (T6.setTop (mkF m 36 #[.val (.int p1), .val (.int p2), .val (.int p3), .val (.int p4), .val (.int p5), .val (.ref d1), .val (.int (0 : Int32)), .val (.int (p3 % (9 : Int32))), .unset, .unset, .unset, .unset, .unset, .unset, .unset, .unset] []))
      refine OwnEnds.st (fun t_ k_ => XS.iloadN X6.here hx rfl (hb hby at_36) rfl k_) ?_
      show OwnEnds _ _ _ _ _ _ _ (T6.setTop (mkF m 37 #[.val (.int p1), .val (.int p2), .val (.int p3), .val (.int p4), .val (.int p5), .val (.ref d1), .val (.int (0 : Int32)), .val (.int (p3 % (9 : Int32))), .unset, .unset, .unset, .unset, .unset, .unset, .unset, .unset] [(.int p4)]))
      refine OwnEnds.st (fun t_ k_ => XS.bipush X6.here hx rfl (hb hby at_37) k_) ?_
      show OwnEnds _ _ _ _ _ _ _ (T6.setTop (mkF m 39 #[.val (.int p1), .val (.int p2), .val (.int p3), .val (.int p4), .val (.int p5), .val (.ref d1), .val (.int (0 : Int32)), .val (.int (p3 % (9 : Int32))), .unset, .unset, .unset, .unset, .unset, .unset, .unset, .unset] [(.int (9 : Int32)), (.int p4)]))
      refine OwnEnds.st (fun t_ k_ => iremM X6 hx rfl (hb hby at_39) rfl (by decide) k_) ?_
      show OwnEnds _ _ _ _ _ _ _ (T6.setTop (mkF m 40 #[.val (.int p1), .val (.int p2), .val (.int p3), .val (.int p4), .val (.int p5), .val (.ref d1), .val (.int (0 : Int32)), .val (.int (p3 % (9 : Int32))), .unset, .unset, .unset, .unset, .unset, .unset, .unset, .unset] [(.int (p4 % (9 : Int32)))]))
      refine OwnEnds.st (fun t_ k_ => XS.istore X6.here hx rfl (hb hby at_40) rfl (l' := #[.val (.int p1), .val (.int p2), .val (.int p3), .val (.int p4), .val (.int p5), .val (.ref d1), .val (.int (0 : Int32)), .val (.int (p3 % (9 : Int32))), .val (.int (p4 % (9 : Int32))), .unset, .unset, .unset, .unset, .unset, .unset, .unset]) rfl k_) ?_
      show OwnEnds _ _ _ _ _ _ _ (T6.setTop (mkF m 42 #[.val (.int p1), .val (.int p2), .val (.int p3), .val (.int p4), .val (.int p5), .val (.ref d1), .val (.int (0 : Int32)), .val (.int (p3 % (9 : Int32))), .val (.int (p4 % (9 : Int32))), .unset, .unset, .unset, .unset, .unset, .unset, .unset] []))
      refine OwnEnds.st (fun t_ k_ => XS.iloadN X6.here hx rfl (hb hby at_42) rfl k_) ?_
      show OwnEnds _ _ _ _ _ _ _ (T6.setTop (mkF m 43 #[.val (.int p1), .val (.int p2), .val (.int p3), .val (.int p4), .val (.int p5), .val (.ref d1), .val (.int (0 : Int32)), .val (.int (p3 % (9 : Int32))), .val (.int (p4 % (9 : Int32))), .unset, .unset, .unset, .unset, .unset, .unset, .unset] [(.int p2)]))
      refine OwnEnds.st (fun t_ k_ => XS.sipush X6.here hx rfl (hb hby at_43) k_) ?_
      show OwnEnds _ _ _ _ _ _ _ (T6.setTop (mkF m 46 #[.val (.int p1), .val (.int p2), .val (.int p3), .val (.int p4), .val (.int p5), .val (.ref d1), .val (.int (0 : Int32)), .val (.int (p3 % (9 : Int32))), .val (.int (p4 % (9 : Int32))), .unset, .unset, .unset, .unset, .unset, .unset, .unset] [(.int (1000 : Int32)), (.int p2)]))
      refine OwnEnds.st (fun t_ k_ => iremM X6 hx rfl (hb hby at_46) rfl (by decide) k_) ?_
      show OwnEnds _ _ _ _ _ _ _ (T6.setTop (mkF m 47 #[.val (.int p1), .val (.int p2), .val (.int p3), .val (.int p4), .val (.int p5), .val (.ref d1), .val (.int (0 : Int32)), .val (.int (p3 % (9 : Int32))), .val (.int (p4 % (9 : Int32))), .unset, .unset, .unset, .unset, .unset, .unset, .unset] [(.int (p2 % (1000 : Int32)))]))
      refine OwnEnds.st (fun t_ k_ => XS.istore X6.here hx rfl (hb hby at_47) rfl (l' := #[.val (.int p1), .val (.int p2), .val (.int p3), .val (.int p4), .val (.int p5), .val (.ref d1), .val (.int (0 : Int32)), .val (.int (p3 % (9 : Int32))), .val (.int (p4 % (9 : Int32))), .val (.int (p2 % (1000 : Int32))), .unset, .unset, .unset, .unset, .unset, .unset]) rfl k_) ?_
      show OwnEnds _ _ _ _ _ _ _ (T6.setTop (mkF m 49 #[.val (.int p1), .val (.int p2), .val (.int p3), .val (.int p4), .val (.int p5), .val (.ref d1), .val (.int (0 : Int32)), .val (.int (p3 % (9 : Int32))), .val (.int (p4 % (9 : Int32))), .val (.int (p2 % (1000 : Int32))), .unset, .unset, .unset, .unset, .unset, .unset] []))
      refine OwnEnds.st (fun t_ k_ => XS.iload X6.here hx rfl (hb hby at_49) rfl k_) ?_
      show OwnEnds _ _ _ _ _ _ _ (T6.setTop (mkF m 51 #[.val (.int p1), .val (.int p2), .val (.int p3), .val (.int p4), .val (.int p5), .val (.ref d1), .val (.int (0 : Int32)), .val (.int (p3 % (9 : Int32))), .val (.int (p4 % (9 : Int32))), .val (.int (p2 % (1000 : Int32))), .unset, .unset, .unset, .unset, .unset, .unset] [(.int p5)]))
      refine OwnEnds.st (fun t_ k_ => X6.ldcInt hx hown (mvT hZ (hw _ (List.mem_of_getElem? (i := 3) rfl))) (g := (mkF m 51 #[.val (.int p1), .val (.int p2), .val (.int p3), .val (.int p4), .val (.int p5), .val (.ref d1), .val (.int (0 : Int32)), .val (.int (p3 % (9 : Int32))), .val (.int (p4 % (9 : Int32))), .val (.int (p2 % (1000 : Int32))), .unset, .unset, .unset, .unset, .unset, .unset] [(.int p5)])) rfl (hb hby at_51) t_ k_) ?_
      show OwnEnds _ _ _ _ _ _ _ (T6.setTop (mkF m 53 #[.val (.int p1), .val (.int p2), .val (.int p3), .val (.int p4), .val (.int p5), .val (.ref d1), .val (.int (0 : Int32)), .val (.int (p3 % (9 : Int32))), .val (.int (p4 % (9 : Int32))), .val (.int (p2 % (1000 : Int32))), .unset, .unset, .unset, .unset, .unset, .unset] [(.int (1000000 : Int32)), (.int p5)]))
      refine OwnEnds.st (fun t_ k_ => iremM X6 hx rfl (hb hby at_53) rfl (by decide) k_) ?_
      show OwnEnds _ _ _ _ _ _ _ (T6.setTop (mkF m 54 #[.val (.int p1), .val (.int p2), .val (.int p3), .val (.int p4), .val (.int p5), .val (.ref d1), .val (.int (0 : Int32)), .val (.int (p3 % (9 : Int32))), .val (.int (p4 % (9 : Int32))), .val (.int (p2 % (1000 : Int32))), .unset, .unset, .unset, .unset, .unset, .unset] [(.int (p5 % (1000000 : Int32)))]))
      refine OwnEnds.st (fun t_ k_ => XS.istore X6.here hx rfl (hb hby at_54) rfl (l' := #[.val (.int p1), .val (.int p2), .val (.int p3), .val (.int p4), .val (.int p5), .val (.ref d1), .val (.int (0 : Int32)), .val (.int (p3 % (9 : Int32))), .val (.int (p4 % (9 : Int32))), .val (.int (p2 % (1000 : Int32))), .val (.int (p5 % (1000000 : Int32))), .unset, .unset, .unset, .unset, .unset]) rfl k_) ?_
      show OwnEnds _ _ _ _ _ _ _ (T6.setTop (mkF m 56 #[.val (.int p1), .val (.int p2), .val (.int p3), .val (.int p4), .val (.int p5), .val (.ref d1), .val (.int (0 : Int32)), .val (.int (p3 % (9 : Int32))), .val (.int (p4 % (9 : Int32))), .val (.int (p2 % (1000 : Int32))), .val (.int (p5 % (1000000 : Int32))), .unset, .unset, .unset, .unset, .unset] []))
      obtain ⟨a, ea⟩ : ∃ z, z = (p3 % (9 : Int32)) := ⟨_, rfl⟩
      obtain ⟨b, eb⟩ : ∃ z, z = (p4 % (9 : Int32)) := ⟨_, rfl⟩
      obtain ⟨k, ek⟩ : ∃ z, z = (p2 % (1000 : Int32)) := ⟨_, rfl⟩
      obtain ⟨dd, edd⟩ : ∃ z, z = (p5 % (1000000 : Int32)) := ⟨_, rfl⟩
      rw [← ea, ← eb, ← ek, ← edd]
      have ha9 : a.toInt < 9 := by rw [ea]; exact (own_mod (by decide) (by decide)).2
      have hb9 : b.toInt < 9 := by rw [eb]; exact (own_mod (by decide) (by decide)).2
      have hk9 : -1000 < k.toInt ∧ k.toInt < 1000 := by rw [ek]; exact own_mod (by decide) (by decide)
      refine OwnEnds.st (fun t_ k_ => XS.iload X6.here hx rfl (hb hby at_56) rfl k_) ?_
      show OwnEnds _ _ _ _ _ _ _ (T6.setTop (mkF m 58 #[.val (.int p1), .val (.int p2), .val (.int p3), .val (.int p4), .val (.int p5), .val (.ref d1), .val (.int (0 : Int32)), .val (.int a), .val (.int b), .val (.int k), .val (.int dd), .unset, .unset, .unset, .unset, .unset] [(.int (0 : Int32))]))
      refine OwnEnds.st (fun t_ k_ => XS.ifYes X6.here hx rfl (pc0 := 58) (pc' := 72) rfl (hb hby at_58) rfl ((if0 _ _).trans (teq (rfl : (0 : Int32) = (0 : Int32))).1) (by decide) (by decide) k_) ?_
      show OwnEnds _ _ _ _ _ _ _ (T6.setTop (mkF m 72 #[.val (.int p1), .val (.int p2), .val (.int p3), .val (.int p4), .val (.int p5), .val (.ref d1), .val (.int (0 : Int32)), .val (.int a), .val (.int b), .val (.int k), .val (.int dd), .unset, .unset, .unset, .unset, .unset] []))
      refine OwnEnds.st (fun t_ k_ => XS.iload X6.here hx rfl (hb hby at_72) rfl k_) ?_
      show OwnEnds _ _ _ _ _ _ _ (T6.setTop (mkF m 74 #[.val (.int p1), .val (.int p2), .val (.int p3), .val (.int p4), .val (.int p5), .val (.ref d1), .val (.int (0 : Int32)), .val (.int a), .val (.int b), .val (.int k), .val (.int dd), .unset, .unset, .unset, .unset, .unset] [(.int dd)]))
      refine OwnEnds.st (fun t_ k_ => XS.istore X6.here hx rfl (hb hby at_74) rfl (l' := #[.val (.int p1), .val (.int p2), .val (.int p3), .val (.int p4), .val (.int p5), .val (.ref d1), .val (.int (0 : Int32)), .val (.int a), .val (.int b), .val (.int k), .val (.int dd), .val (.int dd), .unset, .unset, .unset, .unset]) rfl k_) ?_
      show OwnEnds _ _ _ _ _ _ _ (T6.setTop (mkF m 76 #[.val (.int p1), .val (.int p2), .val (.int p3), .val (.int p4), .val (.int p5), .val (.ref d1), .val (.int (0 : Int32)), .val (.int a), .val (.int b), .val (.int k), .val (.int dd), .val (.int dd), .unset, .unset, .unset, .unset] []))
      refine OwnEnds.st (fun t_ k_ => XS.iload X6.here hx rfl (hb hby at_76) rfl k_) ?_
      show OwnEnds _ _ _ _ _ _ _ (T6.setTop (mkF m 78 #[.val (.int p1), .val (.int p2), .val (.int p3), .val (.int p4), .val (.int p5), .val (.ref d1), .val (.int (0 : Int32)), .val (.int a), .val (.int b), .val (.int k), .val (.int dd), .val (.int dd), .unset, .unset, .unset, .unset] [(.int dd)]))
      refine OwnEnds.st (fun t_ k_ => XS.i2dS X6.here hx rfl (hb hby at_78) rfl rfl k_) ?_
      show OwnEnds _ _ _ _ _ _ _ (T6.setTop (mkF m 79 #[.val (.int p1), .val (.int p2), .val (.int p3), .val (.int p4), .val (.int p5), .val (.ref d1), .val (.int (0 : Int32)), .val (.int a), .val (.int b), .val (.int k), .val (.int dd), .val (.int dd), .unset, .unset, .unset, .unset] [(.double (FP.i2d dd))]))
      refine OwnEnds.st (fun t_ k_ => XS.dstore X6.here hx rfl (hb hby at_79) rfl (l' := #[.val (.int p1), .val (.int p2), .val (.int p3), .val (.int p4), .val (.int p5), .val (.ref d1), .val (.int (0 : Int32)), .val (.int a), .val (.int b), .val (.int k), .val (.int dd), .val (.int dd), .val (.double (FP.i2d dd)), .second, .unset, .unset]) rfl k_) ?_
      show OwnEnds _ _ _ _ _ _ _ (T6.setTop (mkF m 81 #[.val (.int p1), .val (.int p2), .val (.int p3), .val (.int p4), .val (.int p5), .val (.ref d1), .val (.int (0 : Int32)), .val (.int a), .val (.int b), .val (.int k), .val (.int dd), .val (.int dd), .val (.double (FP.i2d dd)), .second, .unset, .unset] []))
      refine OwnEnds.st (fun t_ k_ => XS.aload X6.here hx rfl (hb hby at_81) rfl rfl k_) ?_
      show OwnEnds _ _ _ _ _ _ _ (T6.setTop (mkF m 83 #[.val (.int p1), .val (.int p2), .val (.int p3), .val (.int p4), .val (.int p5), .val (.ref d1), .val (.int (0 : Int32)), .val (.int a), .val (.int b), .val (.int k), .val (.int dd), .val (.int dd), .val (.double (FP.i2d dd)), .second, .unset, .unset] [(.ref d1)]))
      refine OwnEnds.st (fun t_ k_ => XS.dload X6.here hx rfl (hb hby at_83) rfl k_) ?_
      show OwnEnds _ _ _ _ _ _ _ (T6.setTop (mkF m 85 #[.val (.int p1), .val (.int p2), .val (.int p3), .val (.int p4), .val (.int p5), .val (.ref d1), .val (.int (0 : Int32)), .val (.int a), .val (.int b), .val (.int k), .val (.int dd), .val (.int dd), .val (.double (FP.i2d dd)), .second, .unset, .unset] [(.double (FP.i2d dd)), (.ref d1)]))
      refine OwnEnds.st (fun t_ k_ => XS.iload X6.here hx rfl (hb hby at_85) rfl k_) ?_
      show OwnEnds _ _ _ _ _ _ _ (T6.setTop (mkF m 87 #[.val (.int p1), .val (.int p2), .val (.int p3), .val (.int p4), .val (.int p5), .val (.ref d1), .val (.int (0 : Int32)), .val (.int a), .val (.int b), .val (.int k), .val (.int dd), .val (.int dd), .val (.double (FP.i2d dd)), .second, .unset, .unset] [(.int a), (.double (FP.i2d dd)), (.ref d1)]))
      refine OwnEnds.st (fun t_ k_ => XS.i2dS X6.here hx rfl (hb hby at_87) rfl rfl k_) ?_
      show OwnEnds _ _ _ _ _ _ _ (T6.setTop (mkF m 88 #[.val (.int p1), .val (.int p2), .val (.int p3), .val (.int p4), .val (.int p5), .val (.ref d1), .val (.int (0 : Int32)), .val (.int a), .val (.int b), .val (.int k), .val (.int dd), .val (.int dd), .val (.double (FP.i2d dd)), .second, .unset, .unset] [(.double (FP.i2d a)), (.double (FP.i2d dd)), (.ref d1)]))
      refine OwnEnds.st (fun t_ k_ => XS.iload X6.here hx rfl (hb hby at_88) rfl k_) ?_
      show OwnEnds _ _ _ _ _ _ _ (T6.setTop (mkF m 90 #[.val (.int p1), .val (.int p2), .val (.int p3), .val (.int p4), .val (.int p5), .val (.ref d1), .val (.int (0 : Int32)), .val (.int a), .val (.int b), .val (.int k), .val (.int dd), .val (.int dd), .val (.double (FP.i2d dd)), .second, .unset, .unset] [(.int b), (.double (FP.i2d a)), (.double (FP.i2d dd)), (.ref d1)]))
      refine OwnEnds.st (fun t_ k_ => XS.i2dS X6.here hx rfl (hb hby at_90) rfl rfl k_) ?_
      show OwnEnds _ _ _ _ _ _ _ (T6.setTop (mkF m 91 #[.val (.int p1), .val (.int p2), .val (.int p3), .val (.int p4), .val (.int p5), .val (.ref d1), .val (.int (0 : Int32)), .val (.int a), .val (.int b), .val (.int k), .val (.int dd), .val (.int dd), .val (.double (FP.i2d dd)), .second, .unset, .unset] [(.double (FP.i2d b)), (.double (FP.i2d a)), (.double (FP.i2d dd)), (.ref d1)]))
      obtain ⟨cq7, kq7, q7a, q7b, q7c⟩ := isOf hZ e6 (E_d1)
      obtain ⟨_, _, ⟨T7, L7, k7, n7⟩, -, X7, ⟨Lc7, hQ7, l7, y7, z7⟩, st7⟩ := X6.virtualBack hx (y := (⟨"com/example/genius_loci/geniusloci/core/Similarity", "of", "(DDD)D"⟩ : MethodName)) (z := (⟨"com/example/genius_loci/geniusloci/core/Similarity", "of", "(DDD)D"⟩ : MethodName)) hown (mvT hZ (hw _ (List.mem_of_getElem? (i := 4) rfl))) (mvT hZ (hw _ (List.mem_of_getElem? (i := 5) rfl))) (notFace_of_selects (args := #[]) (mvT hZ (hw _ (List.mem_of_getElem? (i := 7) rfl)))) (mvT hZ (hw _ (List.mem_of_getElem? (i := 7) rfl))) (mvT hZ (hw _ (List.mem_of_getElem? (i := 6) rfl))) (by decide) (backOf (W := 0) (rm1 l Z a0 hw [] d1 1 dd a b h0 n0 Z0 E_d1 F_d1 (Or.inr rfl) ha9 hb9) hZ (hw _ (List.mem_of_getElem? (i := 8) rfl)) (hw _ (List.mem_of_getElem? (i := 1) rfl)) (by decide) (by decide)) q7a q7c (g := (mkF m 91 #[.val (.int p1), .val (.int p2), .val (.int p3), .val (.int p4), .val (.int p5), .val (.ref d1), .val (.int (0 : Int32)), .val (.int a), .val (.int b), .val (.int k), .val (.int dd), .val (.int dd), .val (.double (FP.i2d dd)), .second, .unset, .unset] [(.double (FP.i2d b)), (.double (FP.i2d a)), (.double (FP.i2d dd)), (.ref d1)])) rfl (by rw [hml]; rfl) (Steps.refl _) (argsL := [(.double (FP.i2d dd)), (.double (FP.i2d a)), (.double (FP.i2d b))]) (rest := []) (lenOf pd_1 rfl) rfl (by show 2 * 0 + _ ≤ _; exact Nat.le_of_eq rfl) (hb hby at_91) (fun _ _ => ⟨rfl, e6, (by decide : 0 + 0 ≤ _), (by decide : 0 + 0 ≤ _)⟩)
      dsimp only [Pt.U, Pt.locs, Pt.cells, Pt.slots] at X7 l7 y7 z7 st7 hQ7
      subst l7 y7 z7
      obtain ⟨rfl, N7q, hh7⟩ := hQ7
      have N7 := Fr.app N0 N7q
      refine OwnEnds.go st7 ?_
      show OwnEnds _ _ _ _ _ _ _ (T7.setTop (mkF m 94 #[.val (.int p1), .val (.int p2), .val (.int p3), .val (.int p4), .val (.int p5), .val (.ref d1), .val (.int (0 : Int32)), .val (.int a), .val (.int b), .val (.int k), .val (.int dd), .val (.int dd), .val (.double (FP.i2d dd)), .second, .unset, .unset] [(.double (own_of 1 dd a b))]))
      rw [own_of1 rfl]
      show OwnEnds _ _ _ _ _ _ _ (T7.setTop (mkF m 94 #[.val (.int p1), .val (.int p2), .val (.int p3), .val (.int p4), .val (.int p5), .val (.ref d1), .val (.int (0 : Int32)), .val (.int a), .val (.int b), .val (.int k), .val (.int dd), .val (.int dd), .val (.double (FP.i2d dd)), .second, .unset, .unset] [(.double (FP.i2d dd))]))
      refine OwnEnds.st (fun t_ k_ => XS.dstore X7.here hx rfl (hb hby at_94) rfl (l' := #[.val (.int p1), .val (.int p2), .val (.int p3), .val (.int p4), .val (.int p5), .val (.ref d1), .val (.int (0 : Int32)), .val (.int a), .val (.int b), .val (.int k), .val (.int dd), .val (.int dd), .val (.double (FP.i2d dd)), .second, .val (.double (FP.i2d dd)), .second]) rfl k_) ?_
      show OwnEnds _ _ _ _ _ _ _ (T7.setTop (mkF m 96 #[.val (.int p1), .val (.int p2), .val (.int p3), .val (.int p4), .val (.int p5), .val (.ref d1), .val (.int (0 : Int32)), .val (.int a), .val (.int b), .val (.int k), .val (.int dd), .val (.int dd), .val (.double (FP.i2d dd)), .second, .val (.double (FP.i2d dd)), .second] []))
      refine OwnEnds.st (fun t_ k_ => XS.aload X7.here hx rfl (hb hby at_96) rfl rfl k_) ?_
      show OwnEnds _ _ _ _ _ _ _ (T7.setTop (mkF m 98 #[.val (.int p1), .val (.int p2), .val (.int p3), .val (.int p4), .val (.int p5), .val (.ref d1), .val (.int (0 : Int32)), .val (.int a), .val (.int b), .val (.int k), .val (.int dd), .val (.int dd), .val (.double (FP.i2d dd)), .second, .val (.double (FP.i2d dd)), .second] [(.ref d1)]))
      obtain ⟨T8, X8, e8, st8⟩ := getS2 X7 hx hZ hown (host := "") (Or.inl (hw _ (List.mem_of_getElem? (i := 18) rfl))) Via.refl hh7 S_d (g := (mkF m 98 #[.val (.int p1), .val (.int p2), .val (.int p3), .val (.int p4), .val (.int p5), .val (.ref d1), .val (.int (0 : Int32)), .val (.int a), .val (.int b), .val (.int k), .val (.int dd), .val (.int dd), .val (.double (FP.i2d dd)), .second, .val (.double (FP.i2d dd)), .second] [(.ref d1)])) rfl (hb hby at_98)
      refine OwnEnds.st st8 ?_
      show OwnEnds _ _ _ _ _ _ _ (T8.setTop (mkF m 101 #[.val (.int p1), .val (.int p2), .val (.int p3), .val (.int p4), .val (.int p5), .val (.ref d1), .val (.int (0 : Int32)), .val (.int a), .val (.int b), .val (.int k), .val (.int dd), .val (.int dd), .val (.double (FP.i2d dd)), .second, .val (.double (FP.i2d dd)), .second] [(.ref d1), (.ref d1)]))
      refine OwnEnds.st (fun t_ k_ => Jvm.RoadKit.acmp (g := (mkF m 101 #[.val (.int p1), .val (.int p2), .val (.int p3), .val (.int p4), .val (.int p5), .val (.ref d1), .val (.int (0 : Int32)), .val (.int a), .val (.int b), .val (.int k), .val (.int dd), .val (.int dd), .val (.double (FP.i2d dd)), .second, .val (.double (FP.i2d dd)), .second] [(.ref d1), (.ref d1)])) X8 hx rfl rfl rfl (pc0 := 101) (pc' := 104) (same := true) rfl (hb hby at_101) rfl (decide_eq_true rfl) (by decide) (by decide) k_) ?_
      show OwnEnds _ _ _ _ _ _ _ (T8.setTop (mkF m 104 #[.val (.int p1), .val (.int p2), .val (.int p3), .val (.int p4), .val (.int p5), .val (.ref d1), .val (.int (0 : Int32)), .val (.int a), .val (.int b), .val (.int k), .val (.int dd), .val (.int dd), .val (.double (FP.i2d dd)), .second, .val (.double (FP.i2d dd)), .second] []))
      refine OwnEnds.st (fun t_ k_ => XS.dload X8.here hx rfl (hb hby at_104) rfl k_) ?_
      show OwnEnds _ _ _ _ _ _ _ (T8.setTop (mkF m 106 #[.val (.int p1), .val (.int p2), .val (.int p3), .val (.int p4), .val (.int p5), .val (.ref d1), .val (.int (0 : Int32)), .val (.int a), .val (.int b), .val (.int k), .val (.int dd), .val (.int dd), .val (.double (FP.i2d dd)), .second, .val (.double (FP.i2d dd)), .second] [(.double (FP.i2d dd))]))
      refine OwnEnds.st (fun t_ k_ => XS.dload X8.here hx rfl (hb hby at_106) rfl k_) ?_
      show OwnEnds _ _ _ _ _ _ _ (T8.setTop (mkF m 108 #[.val (.int p1), .val (.int p2), .val (.int p3), .val (.int p4), .val (.int p5), .val (.ref d1), .val (.int (0 : Int32)), .val (.int a), .val (.int b), .val (.int k), .val (.int dd), .val (.int dd), .val (.double (FP.i2d dd)), .second, .val (.double (FP.i2d dd)), .second] [(.double (FP.i2d dd)), (.double (FP.i2d dd))]))
      refine OwnEnds.st (fun t_ k_ => XS.dcmpS X8.here hx rfl (hb hby at_108) rfl own_self k_) ?_
      show OwnEnds _ _ _ _ _ _ _ (T8.setTop (mkF m 109 #[.val (.int p1), .val (.int p2), .val (.int p3), .val (.int p4), .val (.int p5), .val (.ref d1), .val (.int (0 : Int32)), .val (.int a), .val (.int b), .val (.int k), .val (.int dd), .val (.int dd), .val (.double (FP.i2d dd)), .second, .val (.double (FP.i2d dd)), .second] [(.int (0 : Int32))]))
      refine OwnEnds.st (fun t_ k_ => XS.ifNo X8.here hx rfl (hb hby at_109) rfl ((if0 _ _).trans (teq (rfl : (0 : Int32) = (0 : Int32))).2) k_) ?_
      show OwnEnds _ _ _ _ _ _ _ (T8.setTop (mkF m 112 #[.val (.int p1), .val (.int p2), .val (.int p3), .val (.int p4), .val (.int p5), .val (.ref d1), .val (.int (0 : Int32)), .val (.int a), .val (.int b), .val (.int k), .val (.int dd), .val (.int dd), .val (.double (FP.i2d dd)), .second, .val (.double (FP.i2d dd)), .second] []))
      refine OwnEnds.st (fun t_ k_ => XS.iconst X8.here hx rfl (hb hby at_112) k_) ?_
      show OwnEnds _ _ _ _ _ _ _ (T8.setTop (mkF m 113 #[.val (.int p1), .val (.int p2), .val (.int p3), .val (.int p4), .val (.int p5), .val (.ref d1), .val (.int (0 : Int32)), .val (.int a), .val (.int b), .val (.int k), .val (.int dd), .val (.int dd), .val (.double (FP.i2d dd)), .second, .val (.double (FP.i2d dd)), .second] [(.int (1 : Int32))]))
      refine OwnEnds.st (fun t_ k_ => XS.goto X8.here hx rfl (pc0 := 113) (pc' := 117) rfl (hb hby at_113) (by decide) (by decide) k_) ?_
      show OwnEnds _ _ _ _ _ _ _ (T8.setTop (mkF m 117 #[.val (.int p1), .val (.int p2), .val (.int p3), .val (.int p4), .val (.int p5), .val (.ref d1), .val (.int (0 : Int32)), .val (.int a), .val (.int b), .val (.int k), .val (.int dd), .val (.int dd), .val (.double (FP.i2d dd)), .second, .val (.double (FP.i2d dd)), .second] [(.int (1 : Int32))]))
      refine own_retN (t := .boolean) X8 hx Bd.returns Bd.notSynchronized (by simp) (hb hby at_117) ?_ (by decide) (by decide)
      show Q0 Z p1 p2 p3 p4 p5 c1 d1 h0 n0 _ T8.heap _
      rw [e8]
      exact ⟨rfl, N7⟩
    · refine OwnEnds.st (fun t_ k_ => XS.ifNo X6.here hx rfl (hb hby at_20) rfl ((if0 _ _).trans (feq (hs2 : ¬ ((p1 &&& (2 : Int32)) = (0 : Int32)))).1) k_) ?_
      show OwnEnds _ _ _ _ _ _ _ (T6.setTop (mkF m 23 #[.val (.int p1), .val (.int p2), .val (.int p3), .val (.int p4), .val (.int p5), .val (.ref d1), .unset, .unset, .unset, .unset, .unset, .unset, .unset, .unset, .unset, .unset] []))
      refine OwnEnds.st (fun t_ k_ => XS.iconst X6.here hx rfl (hb hby at_23) k_) ?_
      show OwnEnds _ _ _ _ _ _ _ (T6.setTop (mkF m 24 #[.val (.int p1), .val (.int p2), .val (.int p3), .val (.int p4), .val (.int p5), .val (.ref d1), .unset, .unset, .unset, .unset, .unset, .unset, .unset, .unset, .unset, .unset] [(.int (1 : Int32))]))
      refine OwnEnds.st (fun t_ k_ => XS.goto X6.here hx rfl (pc0 := 24) (pc' := 28) rfl (hb hby at_24) (by decide) (by decide) k_) ?_
      show OwnEnds _ _ _ _ _ _ _ (T6.setTop (mkF m 28 #[.val (.int p1), .val (.int p2), .val (.int p3), .val (.int p4), .val (.int p5), .val (.ref d1), .unset, .unset, .unset, .unset, .unset, .unset, .unset, .unset, .unset, .unset] [(.int (1 : Int32))]))
      refine OwnEnds.st (fun t_ k_ => XS.istore X6.here hx rfl (hb hby at_28) rfl (l' := #[.val (.int p1), .val (.int p2), .val (.int p3), .val (.int p4), .val (.int p5), .val (.ref d1), .val (.int (1 : Int32)), .unset, .unset, .unset, .unset, .unset, .unset, .unset, .unset, .unset]) rfl k_) ?_
      show OwnEnds _ _ _ _ _ _ _ (T6.setTop (mkF m 30 #[.val (.int p1), .val (.int p2), .val (.int p3), .val (.int p4), .val (.int p5), .val (.ref d1), .val (.int (1 : Int32)), .unset, .unset, .unset, .unset, .unset, .unset, .unset, .unset, .unset] []))
      refine OwnEnds.st (fun t_ k_ => XS.iloadN X6.here hx rfl (hb hby at_30) rfl k_) ?_
      show OwnEnds _ _ _ _ _ _ _ (T6.setTop (mkF m 31 #[.val (.int p1), .val (.int p2), .val (.int p3), .val (.int p4), .val (.int p5), .val (.ref d1), .val (.int (1 : Int32)), .unset, .unset, .unset, .unset, .unset, .unset, .unset, .unset, .unset] [(.int p3)]))
      refine OwnEnds.st (fun t_ k_ => XS.bipush X6.here hx rfl (hb hby at_31) k_) ?_
      show OwnEnds _ _ _ _ _ _ _ (T6.setTop (mkF m 33 #[.val (.int p1), .val (.int p2), .val (.int p3), .val (.int p4), .val (.int p5), .val (.ref d1), .val (.int (1 : Int32)), .unset, .unset, .unset, .unset, .unset, .unset, .unset, .unset, .unset] [(.int (9 : Int32)), (.int p3)]))
      refine OwnEnds.st (fun t_ k_ => iremM X6 hx rfl (hb hby at_33) rfl (by decide) k_) ?_
      show OwnEnds _ _ _ _ _ _ _ (T6.setTop (mkF m 34 #[.val (.int p1), .val (.int p2), .val (.int p3), .val (.int p4), .val (.int p5), .val (.ref d1), .val (.int (1 : Int32)), .unset, .unset, .unset, .unset, .unset, .unset, .unset, .unset, .unset] [(.int (p3 % (9 : Int32)))]))
      refine OwnEnds.st (fun t_ k_ => XS.istore X6.here hx rfl (hb hby at_34) rfl (l' := #[.val (.int p1), .val (.int p2), .val (.int p3), .val (.int p4), .val (.int p5), .val (.ref d1), .val (.int (1 : Int32)), .val (.int (p3 % (9 : Int32))), .unset, .unset, .unset, .unset, .unset, .unset, .unset, .unset]) rfl k_) ?_
      show OwnEnds _ _ _ _ _ _ _ (T6.setTop (mkF m 36 #[.val (.int p1), .val (.int p2), .val (.int p3), .val (.int p4), .val (.int p5), .val (.ref d1), .val (.int (1 : Int32)), .val (.int (p3 % (9 : Int32))), .unset, .unset, .unset, .unset, .unset, .unset, .unset, .unset] []))
      refine OwnEnds.st (fun t_ k_ => XS.iloadN X6.here hx rfl (hb hby at_36) rfl k_) ?_
      show OwnEnds _ _ _ _ _ _ _ (T6.setTop (mkF m 37 #[.val (.int p1), .val (.int p2), .val (.int p3), .val (.int p4), .val (.int p5), .val (.ref d1), .val (.int (1 : Int32)), .val (.int (p3 % (9 : Int32))), .unset, .unset, .unset, .unset, .unset, .unset, .unset, .unset] [(.int p4)]))
      refine OwnEnds.st (fun t_ k_ => XS.bipush X6.here hx rfl (hb hby at_37) k_) ?_
      show OwnEnds _ _ _ _ _ _ _ (T6.setTop (mkF m 39 #[.val (.int p1), .val (.int p2), .val (.int p3), .val (.int p4), .val (.int p5), .val (.ref d1), .val (.int (1 : Int32)), .val (.int (p3 % (9 : Int32))), .unset, .unset, .unset, .unset, .unset, .unset, .unset, .unset] [(.int (9 : Int32)), (.int p4)]))
      refine OwnEnds.st (fun t_ k_ => iremM X6 hx rfl (hb hby at_39) rfl (by decide) k_) ?_
      show OwnEnds _ _ _ _ _ _ _ (T6.setTop (mkF m 40 #[.val (.int p1), .val (.int p2), .val (.int p3), .val (.int p4), .val (.int p5), .val (.ref d1), .val (.int (1 : Int32)), .val (.int (p3 % (9 : Int32))), .unset, .unset, .unset, .unset, .unset, .unset, .unset, .unset] [(.int (p4 % (9 : Int32)))]))
      refine OwnEnds.st (fun t_ k_ => XS.istore X6.here hx rfl (hb hby at_40) rfl (l' := #[.val (.int p1), .val (.int p2), .val (.int p3), .val (.int p4), .val (.int p5), .val (.ref d1), .val (.int (1 : Int32)), .val (.int (p3 % (9 : Int32))), .val (.int (p4 % (9 : Int32))), .unset, .unset, .unset, .unset, .unset, .unset, .unset]) rfl k_) ?_
      show OwnEnds _ _ _ _ _ _ _ (T6.setTop (mkF m 42 #[.val (.int p1), .val (.int p2), .val (.int p3), .val (.int p4), .val (.int p5), .val (.ref d1), .val (.int (1 : Int32)), .val (.int (p3 % (9 : Int32))), .val (.int (p4 % (9 : Int32))), .unset, .unset, .unset, .unset, .unset, .unset, .unset] []))
      refine OwnEnds.st (fun t_ k_ => XS.iloadN X6.here hx rfl (hb hby at_42) rfl k_) ?_
      show OwnEnds _ _ _ _ _ _ _ (T6.setTop (mkF m 43 #[.val (.int p1), .val (.int p2), .val (.int p3), .val (.int p4), .val (.int p5), .val (.ref d1), .val (.int (1 : Int32)), .val (.int (p3 % (9 : Int32))), .val (.int (p4 % (9 : Int32))), .unset, .unset, .unset, .unset, .unset, .unset, .unset] [(.int p2)]))
      refine OwnEnds.st (fun t_ k_ => XS.sipush X6.here hx rfl (hb hby at_43) k_) ?_
      show OwnEnds _ _ _ _ _ _ _ (T6.setTop (mkF m 46 #[.val (.int p1), .val (.int p2), .val (.int p3), .val (.int p4), .val (.int p5), .val (.ref d1), .val (.int (1 : Int32)), .val (.int (p3 % (9 : Int32))), .val (.int (p4 % (9 : Int32))), .unset, .unset, .unset, .unset, .unset, .unset, .unset] [(.int (1000 : Int32)), (.int p2)]))
      refine OwnEnds.st (fun t_ k_ => iremM X6 hx rfl (hb hby at_46) rfl (by decide) k_) ?_
      show OwnEnds _ _ _ _ _ _ _ (T6.setTop (mkF m 47 #[.val (.int p1), .val (.int p2), .val (.int p3), .val (.int p4), .val (.int p5), .val (.ref d1), .val (.int (1 : Int32)), .val (.int (p3 % (9 : Int32))), .val (.int (p4 % (9 : Int32))), .unset, .unset, .unset, .unset, .unset, .unset, .unset] [(.int (p2 % (1000 : Int32)))]))
      refine OwnEnds.st (fun t_ k_ => XS.istore X6.here hx rfl (hb hby at_47) rfl (l' := #[.val (.int p1), .val (.int p2), .val (.int p3), .val (.int p4), .val (.int p5), .val (.ref d1), .val (.int (1 : Int32)), .val (.int (p3 % (9 : Int32))), .val (.int (p4 % (9 : Int32))), .val (.int (p2 % (1000 : Int32))), .unset, .unset, .unset, .unset, .unset, .unset]) rfl k_) ?_
      show OwnEnds _ _ _ _ _ _ _ (T6.setTop (mkF m 49 #[.val (.int p1), .val (.int p2), .val (.int p3), .val (.int p4), .val (.int p5), .val (.ref d1), .val (.int (1 : Int32)), .val (.int (p3 % (9 : Int32))), .val (.int (p4 % (9 : Int32))), .val (.int (p2 % (1000 : Int32))), .unset, .unset, .unset, .unset, .unset, .unset] []))
      refine OwnEnds.st (fun t_ k_ => XS.iload X6.here hx rfl (hb hby at_49) rfl k_) ?_
      show OwnEnds _ _ _ _ _ _ _ (T6.setTop (mkF m 51 #[.val (.int p1), .val (.int p2), .val (.int p3), .val (.int p4), .val (.int p5), .val (.ref d1), .val (.int (1 : Int32)), .val (.int (p3 % (9 : Int32))), .val (.int (p4 % (9 : Int32))), .val (.int (p2 % (1000 : Int32))), .unset, .unset, .unset, .unset, .unset, .unset] [(.int p5)]))
      refine OwnEnds.st (fun t_ k_ => X6.ldcInt hx hown (mvT hZ (hw _ (List.mem_of_getElem? (i := 3) rfl))) (g := (mkF m 51 #[.val (.int p1), .val (.int p2), .val (.int p3), .val (.int p4), .val (.int p5), .val (.ref d1), .val (.int (1 : Int32)), .val (.int (p3 % (9 : Int32))), .val (.int (p4 % (9 : Int32))), .val (.int (p2 % (1000 : Int32))), .unset, .unset, .unset, .unset, .unset, .unset] [(.int p5)])) rfl (hb hby at_51) t_ k_) ?_
      show OwnEnds _ _ _ _ _ _ _ (T6.setTop (mkF m 53 #[.val (.int p1), .val (.int p2), .val (.int p3), .val (.int p4), .val (.int p5), .val (.ref d1), .val (.int (1 : Int32)), .val (.int (p3 % (9 : Int32))), .val (.int (p4 % (9 : Int32))), .val (.int (p2 % (1000 : Int32))), .unset, .unset, .unset, .unset, .unset, .unset] [(.int (1000000 : Int32)), (.int p5)]))
      refine OwnEnds.st (fun t_ k_ => iremM X6 hx rfl (hb hby at_53) rfl (by decide) k_) ?_
      show OwnEnds _ _ _ _ _ _ _ (T6.setTop (mkF m 54 #[.val (.int p1), .val (.int p2), .val (.int p3), .val (.int p4), .val (.int p5), .val (.ref d1), .val (.int (1 : Int32)), .val (.int (p3 % (9 : Int32))), .val (.int (p4 % (9 : Int32))), .val (.int (p2 % (1000 : Int32))), .unset, .unset, .unset, .unset, .unset, .unset] [(.int (p5 % (1000000 : Int32)))]))
      refine OwnEnds.st (fun t_ k_ => XS.istore X6.here hx rfl (hb hby at_54) rfl (l' := #[.val (.int p1), .val (.int p2), .val (.int p3), .val (.int p4), .val (.int p5), .val (.ref d1), .val (.int (1 : Int32)), .val (.int (p3 % (9 : Int32))), .val (.int (p4 % (9 : Int32))), .val (.int (p2 % (1000 : Int32))), .val (.int (p5 % (1000000 : Int32))), .unset, .unset, .unset, .unset, .unset]) rfl k_) ?_
      show OwnEnds _ _ _ _ _ _ _ (T6.setTop (mkF m 56 #[.val (.int p1), .val (.int p2), .val (.int p3), .val (.int p4), .val (.int p5), .val (.ref d1), .val (.int (1 : Int32)), .val (.int (p3 % (9 : Int32))), .val (.int (p4 % (9 : Int32))), .val (.int (p2 % (1000 : Int32))), .val (.int (p5 % (1000000 : Int32))), .unset, .unset, .unset, .unset, .unset] []))
      obtain ⟨a, ea⟩ : ∃ z, z = (p3 % (9 : Int32)) := ⟨_, rfl⟩
      obtain ⟨b, eb⟩ : ∃ z, z = (p4 % (9 : Int32)) := ⟨_, rfl⟩
      obtain ⟨k, ek⟩ : ∃ z, z = (p2 % (1000 : Int32)) := ⟨_, rfl⟩
      obtain ⟨dd, edd⟩ : ∃ z, z = (p5 % (1000000 : Int32)) := ⟨_, rfl⟩
      rw [← ea, ← eb, ← ek, ← edd]
      have ha9 : a.toInt < 9 := by rw [ea]; exact (own_mod (by decide) (by decide)).2
      have hb9 : b.toInt < 9 := by rw [eb]; exact (own_mod (by decide) (by decide)).2
      have hk9 : -1000 < k.toInt ∧ k.toInt < 1000 := by rw [ek]; exact own_mod (by decide) (by decide)
      refine OwnEnds.st (fun t_ k_ => XS.iload X6.here hx rfl (hb hby at_56) rfl k_) ?_
      show OwnEnds _ _ _ _ _ _ _ (T6.setTop (mkF m 58 #[.val (.int p1), .val (.int p2), .val (.int p3), .val (.int p4), .val (.int p5), .val (.ref d1), .val (.int (1 : Int32)), .val (.int a), .val (.int b), .val (.int k), .val (.int dd), .unset, .unset, .unset, .unset, .unset] [(.int (1 : Int32))]))
      refine OwnEnds.st (fun t_ k_ => XS.ifNo X6.here hx rfl (hb hby at_58) rfl ((if0 _ _).trans (feq ((by decide) : ¬ ((1 : Int32) = (0 : Int32)))).1) k_) ?_
      show OwnEnds _ _ _ _ _ _ _ (T6.setTop (mkF m 61 #[.val (.int p1), .val (.int p2), .val (.int p3), .val (.int p4), .val (.int p5), .val (.ref d1), .val (.int (1 : Int32)), .val (.int a), .val (.int b), .val (.int k), .val (.int dd), .unset, .unset, .unset, .unset, .unset] []))
      refine OwnEnds.st (fun t_ k_ => XS.iload X6.here hx rfl (hb hby at_61) rfl k_) ?_
      show OwnEnds _ _ _ _ _ _ _ (T6.setTop (mkF m 63 #[.val (.int p1), .val (.int p2), .val (.int p3), .val (.int p4), .val (.int p5), .val (.ref d1), .val (.int (1 : Int32)), .val (.int a), .val (.int b), .val (.int k), .val (.int dd), .unset, .unset, .unset, .unset, .unset] [(.int k)]))
      refine OwnEnds.st (fun t_ k_ => XS.iload X6.here hx rfl (hb hby at_63) rfl k_) ?_
      show OwnEnds _ _ _ _ _ _ _ (T6.setTop (mkF m 65 #[.val (.int p1), .val (.int p2), .val (.int p3), .val (.int p4), .val (.int p5), .val (.ref d1), .val (.int (1 : Int32)), .val (.int a), .val (.int b), .val (.int k), .val (.int dd), .unset, .unset, .unset, .unset, .unset] [(.int a), (.int k)]))
      refine OwnEnds.st (fun t_ k_ => XS.imul X6.here hx rfl (hb hby at_65) rfl k_) ?_
      show OwnEnds _ _ _ _ _ _ _ (T6.setTop (mkF m 66 #[.val (.int p1), .val (.int p2), .val (.int p3), .val (.int p4), .val (.int p5), .val (.ref d1), .val (.int (1 : Int32)), .val (.int a), .val (.int b), .val (.int k), .val (.int dd), .unset, .unset, .unset, .unset, .unset] [(.int (k * a))]))
      refine OwnEnds.st (fun t_ k_ => XS.iload X6.here hx rfl (hb hby at_66) rfl k_) ?_
      show OwnEnds _ _ _ _ _ _ _ (T6.setTop (mkF m 68 #[.val (.int p1), .val (.int p2), .val (.int p3), .val (.int p4), .val (.int p5), .val (.ref d1), .val (.int (1 : Int32)), .val (.int a), .val (.int b), .val (.int k), .val (.int dd), .unset, .unset, .unset, .unset, .unset] [(.int b), (.int (k * a))]))
      refine OwnEnds.st (fun t_ k_ => XS.imul X6.here hx rfl (hb hby at_68) rfl k_) ?_
      show OwnEnds _ _ _ _ _ _ _ (T6.setTop (mkF m 69 #[.val (.int p1), .val (.int p2), .val (.int p3), .val (.int p4), .val (.int p5), .val (.ref d1), .val (.int (1 : Int32)), .val (.int a), .val (.int b), .val (.int k), .val (.int dd), .unset, .unset, .unset, .unset, .unset] [(.int ((k * a) * b))]))
      refine OwnEnds.st (fun t_ k_ => XS.goto X6.here hx rfl (pc0 := 69) (pc' := 74) rfl (hb hby at_69) (by decide) (by decide) k_) ?_
      show OwnEnds _ _ _ _ _ _ _ (T6.setTop (mkF m 74 #[.val (.int p1), .val (.int p2), .val (.int p3), .val (.int p4), .val (.int p5), .val (.ref d1), .val (.int (1 : Int32)), .val (.int a), .val (.int b), .val (.int k), .val (.int dd), .unset, .unset, .unset, .unset, .unset] [(.int ((k * a) * b))]))
      refine OwnEnds.st (fun t_ k_ => XS.istore X6.here hx rfl (hb hby at_74) rfl (l' := #[.val (.int p1), .val (.int p2), .val (.int p3), .val (.int p4), .val (.int p5), .val (.ref d1), .val (.int (1 : Int32)), .val (.int a), .val (.int b), .val (.int k), .val (.int dd), .val (.int ((k * a) * b)), .unset, .unset, .unset, .unset]) rfl k_) ?_
      show OwnEnds _ _ _ _ _ _ _ (T6.setTop (mkF m 76 #[.val (.int p1), .val (.int p2), .val (.int p3), .val (.int p4), .val (.int p5), .val (.ref d1), .val (.int (1 : Int32)), .val (.int a), .val (.int b), .val (.int k), .val (.int dd), .val (.int ((k * a) * b)), .unset, .unset, .unset, .unset] []))
      refine OwnEnds.st (fun t_ k_ => XS.iload X6.here hx rfl (hb hby at_76) rfl k_) ?_
      show OwnEnds _ _ _ _ _ _ _ (T6.setTop (mkF m 78 #[.val (.int p1), .val (.int p2), .val (.int p3), .val (.int p4), .val (.int p5), .val (.ref d1), .val (.int (1 : Int32)), .val (.int a), .val (.int b), .val (.int k), .val (.int dd), .val (.int ((k * a) * b)), .unset, .unset, .unset, .unset] [(.int ((k * a) * b))]))
      refine OwnEnds.st (fun t_ k_ => XS.i2dS X6.here hx rfl (hb hby at_78) rfl rfl k_) ?_
      show OwnEnds _ _ _ _ _ _ _ (T6.setTop (mkF m 79 #[.val (.int p1), .val (.int p2), .val (.int p3), .val (.int p4), .val (.int p5), .val (.ref d1), .val (.int (1 : Int32)), .val (.int a), .val (.int b), .val (.int k), .val (.int dd), .val (.int ((k * a) * b)), .unset, .unset, .unset, .unset] [(.double (FP.i2d ((k * a) * b)))]))
      refine OwnEnds.st (fun t_ k_ => XS.dstore X6.here hx rfl (hb hby at_79) rfl (l' := #[.val (.int p1), .val (.int p2), .val (.int p3), .val (.int p4), .val (.int p5), .val (.ref d1), .val (.int (1 : Int32)), .val (.int a), .val (.int b), .val (.int k), .val (.int dd), .val (.int ((k * a) * b)), .val (.double (FP.i2d ((k * a) * b))), .second, .unset, .unset]) rfl k_) ?_
      show OwnEnds _ _ _ _ _ _ _ (T6.setTop (mkF m 81 #[.val (.int p1), .val (.int p2), .val (.int p3), .val (.int p4), .val (.int p5), .val (.ref d1), .val (.int (1 : Int32)), .val (.int a), .val (.int b), .val (.int k), .val (.int dd), .val (.int ((k * a) * b)), .val (.double (FP.i2d ((k * a) * b))), .second, .unset, .unset] []))
      refine OwnEnds.st (fun t_ k_ => XS.aload X6.here hx rfl (hb hby at_81) rfl rfl k_) ?_
      show OwnEnds _ _ _ _ _ _ _ (T6.setTop (mkF m 83 #[.val (.int p1), .val (.int p2), .val (.int p3), .val (.int p4), .val (.int p5), .val (.ref d1), .val (.int (1 : Int32)), .val (.int a), .val (.int b), .val (.int k), .val (.int dd), .val (.int ((k * a) * b)), .val (.double (FP.i2d ((k * a) * b))), .second, .unset, .unset] [(.ref d1)]))
      refine OwnEnds.st (fun t_ k_ => XS.dload X6.here hx rfl (hb hby at_83) rfl k_) ?_
      show OwnEnds _ _ _ _ _ _ _ (T6.setTop (mkF m 85 #[.val (.int p1), .val (.int p2), .val (.int p3), .val (.int p4), .val (.int p5), .val (.ref d1), .val (.int (1 : Int32)), .val (.int a), .val (.int b), .val (.int k), .val (.int dd), .val (.int ((k * a) * b)), .val (.double (FP.i2d ((k * a) * b))), .second, .unset, .unset] [(.double (FP.i2d ((k * a) * b))), (.ref d1)]))
      refine OwnEnds.st (fun t_ k_ => XS.iload X6.here hx rfl (hb hby at_85) rfl k_) ?_
      show OwnEnds _ _ _ _ _ _ _ (T6.setTop (mkF m 87 #[.val (.int p1), .val (.int p2), .val (.int p3), .val (.int p4), .val (.int p5), .val (.ref d1), .val (.int (1 : Int32)), .val (.int a), .val (.int b), .val (.int k), .val (.int dd), .val (.int ((k * a) * b)), .val (.double (FP.i2d ((k * a) * b))), .second, .unset, .unset] [(.int a), (.double (FP.i2d ((k * a) * b))), (.ref d1)]))
      refine OwnEnds.st (fun t_ k_ => XS.i2dS X6.here hx rfl (hb hby at_87) rfl rfl k_) ?_
      show OwnEnds _ _ _ _ _ _ _ (T6.setTop (mkF m 88 #[.val (.int p1), .val (.int p2), .val (.int p3), .val (.int p4), .val (.int p5), .val (.ref d1), .val (.int (1 : Int32)), .val (.int a), .val (.int b), .val (.int k), .val (.int dd), .val (.int ((k * a) * b)), .val (.double (FP.i2d ((k * a) * b))), .second, .unset, .unset] [(.double (FP.i2d a)), (.double (FP.i2d ((k * a) * b))), (.ref d1)]))
      refine OwnEnds.st (fun t_ k_ => XS.iload X6.here hx rfl (hb hby at_88) rfl k_) ?_
      show OwnEnds _ _ _ _ _ _ _ (T6.setTop (mkF m 90 #[.val (.int p1), .val (.int p2), .val (.int p3), .val (.int p4), .val (.int p5), .val (.ref d1), .val (.int (1 : Int32)), .val (.int a), .val (.int b), .val (.int k), .val (.int dd), .val (.int ((k * a) * b)), .val (.double (FP.i2d ((k * a) * b))), .second, .unset, .unset] [(.int b), (.double (FP.i2d a)), (.double (FP.i2d ((k * a) * b))), (.ref d1)]))
      refine OwnEnds.st (fun t_ k_ => XS.i2dS X6.here hx rfl (hb hby at_90) rfl rfl k_) ?_
      show OwnEnds _ _ _ _ _ _ _ (T6.setTop (mkF m 91 #[.val (.int p1), .val (.int p2), .val (.int p3), .val (.int p4), .val (.int p5), .val (.ref d1), .val (.int (1 : Int32)), .val (.int a), .val (.int b), .val (.int k), .val (.int dd), .val (.int ((k * a) * b)), .val (.double (FP.i2d ((k * a) * b))), .second, .unset, .unset] [(.double (FP.i2d b)), (.double (FP.i2d a)), (.double (FP.i2d ((k * a) * b))), (.ref d1)]))
      obtain ⟨cq9, kq9, q9a, q9b, q9c⟩ := isOf hZ e6 (E_d1)
      obtain ⟨_, _, ⟨T9, L9, k9, n9⟩, -, X9, ⟨Lc9, hQ9, l9, y9, z9⟩, st9⟩ := X6.virtualBack hx (y := (⟨"com/example/genius_loci/geniusloci/core/Similarity", "of", "(DDD)D"⟩ : MethodName)) (z := (⟨"com/example/genius_loci/geniusloci/core/Similarity", "of", "(DDD)D"⟩ : MethodName)) hown (mvT hZ (hw _ (List.mem_of_getElem? (i := 4) rfl))) (mvT hZ (hw _ (List.mem_of_getElem? (i := 5) rfl))) (notFace_of_selects (args := #[]) (mvT hZ (hw _ (List.mem_of_getElem? (i := 7) rfl)))) (mvT hZ (hw _ (List.mem_of_getElem? (i := 7) rfl))) (mvT hZ (hw _ (List.mem_of_getElem? (i := 6) rfl))) (by decide) (backOf (W := 0) (rm1 l Z a0 hw [] d1 1 ((k * a) * b) a b h0 n0 Z0 E_d1 F_d1 (Or.inr rfl) ha9 hb9) hZ (hw _ (List.mem_of_getElem? (i := 8) rfl)) (hw _ (List.mem_of_getElem? (i := 1) rfl)) (by decide) (by decide)) q9a q9c (g := (mkF m 91 #[.val (.int p1), .val (.int p2), .val (.int p3), .val (.int p4), .val (.int p5), .val (.ref d1), .val (.int (1 : Int32)), .val (.int a), .val (.int b), .val (.int k), .val (.int dd), .val (.int ((k * a) * b)), .val (.double (FP.i2d ((k * a) * b))), .second, .unset, .unset] [(.double (FP.i2d b)), (.double (FP.i2d a)), (.double (FP.i2d ((k * a) * b))), (.ref d1)])) rfl (by rw [hml]; rfl) (Steps.refl _) (argsL := [(.double (FP.i2d ((k * a) * b))), (.double (FP.i2d a)), (.double (FP.i2d b))]) (rest := []) (lenOf pd_1 rfl) rfl (by show 2 * 0 + _ ≤ _; exact Nat.le_of_eq rfl) (hb hby at_91) (fun _ _ => ⟨rfl, e6, (by decide : 0 + 0 ≤ _), (by decide : 0 + 0 ≤ _)⟩)
      dsimp only [Pt.U, Pt.locs, Pt.cells, Pt.slots] at X9 l9 y9 z9 st9 hQ9
      subst l9 y9 z9
      obtain ⟨rfl, N9q, hh9⟩ := hQ9
      have N9 := Fr.app N0 N9q
      refine OwnEnds.go st9 ?_
      show OwnEnds _ _ _ _ _ _ _ (T9.setTop (mkF m 94 #[.val (.int p1), .val (.int p2), .val (.int p3), .val (.int p4), .val (.int p5), .val (.ref d1), .val (.int (1 : Int32)), .val (.int a), .val (.int b), .val (.int k), .val (.int dd), .val (.int ((k * a) * b)), .val (.double (FP.i2d ((k * a) * b))), .second, .unset, .unset] [(.double (own_of 1 ((k * a) * b) a b))]))
      rw [own_of1 rfl]
      show OwnEnds _ _ _ _ _ _ _ (T9.setTop (mkF m 94 #[.val (.int p1), .val (.int p2), .val (.int p3), .val (.int p4), .val (.int p5), .val (.ref d1), .val (.int (1 : Int32)), .val (.int a), .val (.int b), .val (.int k), .val (.int dd), .val (.int ((k * a) * b)), .val (.double (FP.i2d ((k * a) * b))), .second, .unset, .unset] [(.double (FP.i2d ((k * a) * b)))]))
      refine OwnEnds.st (fun t_ k_ => XS.dstore X9.here hx rfl (hb hby at_94) rfl (l' := #[.val (.int p1), .val (.int p2), .val (.int p3), .val (.int p4), .val (.int p5), .val (.ref d1), .val (.int (1 : Int32)), .val (.int a), .val (.int b), .val (.int k), .val (.int dd), .val (.int ((k * a) * b)), .val (.double (FP.i2d ((k * a) * b))), .second, .val (.double (FP.i2d ((k * a) * b))), .second]) rfl k_) ?_
      show OwnEnds _ _ _ _ _ _ _ (T9.setTop (mkF m 96 #[.val (.int p1), .val (.int p2), .val (.int p3), .val (.int p4), .val (.int p5), .val (.ref d1), .val (.int (1 : Int32)), .val (.int a), .val (.int b), .val (.int k), .val (.int dd), .val (.int ((k * a) * b)), .val (.double (FP.i2d ((k * a) * b))), .second, .val (.double (FP.i2d ((k * a) * b))), .second] []))
      refine OwnEnds.st (fun t_ k_ => XS.aload X9.here hx rfl (hb hby at_96) rfl rfl k_) ?_
      show OwnEnds _ _ _ _ _ _ _ (T9.setTop (mkF m 98 #[.val (.int p1), .val (.int p2), .val (.int p3), .val (.int p4), .val (.int p5), .val (.ref d1), .val (.int (1 : Int32)), .val (.int a), .val (.int b), .val (.int k), .val (.int dd), .val (.int ((k * a) * b)), .val (.double (FP.i2d ((k * a) * b))), .second, .val (.double (FP.i2d ((k * a) * b))), .second] [(.ref d1)]))
      obtain ⟨T10, X10, e10, st10⟩ := getS2 X9 hx hZ hown (host := "") (Or.inl (hw _ (List.mem_of_getElem? (i := 18) rfl))) Via.refl hh9 S_d (g := (mkF m 98 #[.val (.int p1), .val (.int p2), .val (.int p3), .val (.int p4), .val (.int p5), .val (.ref d1), .val (.int (1 : Int32)), .val (.int a), .val (.int b), .val (.int k), .val (.int dd), .val (.int ((k * a) * b)), .val (.double (FP.i2d ((k * a) * b))), .second, .val (.double (FP.i2d ((k * a) * b))), .second] [(.ref d1)])) rfl (hb hby at_98)
      refine OwnEnds.st st10 ?_
      show OwnEnds _ _ _ _ _ _ _ (T10.setTop (mkF m 101 #[.val (.int p1), .val (.int p2), .val (.int p3), .val (.int p4), .val (.int p5), .val (.ref d1), .val (.int (1 : Int32)), .val (.int a), .val (.int b), .val (.int k), .val (.int dd), .val (.int ((k * a) * b)), .val (.double (FP.i2d ((k * a) * b))), .second, .val (.double (FP.i2d ((k * a) * b))), .second] [(.ref d1), (.ref d1)]))
      refine OwnEnds.st (fun t_ k_ => Jvm.RoadKit.acmp (g := (mkF m 101 #[.val (.int p1), .val (.int p2), .val (.int p3), .val (.int p4), .val (.int p5), .val (.ref d1), .val (.int (1 : Int32)), .val (.int a), .val (.int b), .val (.int k), .val (.int dd), .val (.int ((k * a) * b)), .val (.double (FP.i2d ((k * a) * b))), .second, .val (.double (FP.i2d ((k * a) * b))), .second] [(.ref d1), (.ref d1)])) X10 hx rfl rfl rfl (pc0 := 101) (pc' := 104) (same := true) rfl (hb hby at_101) rfl (decide_eq_true rfl) (by decide) (by decide) k_) ?_
      show OwnEnds _ _ _ _ _ _ _ (T10.setTop (mkF m 104 #[.val (.int p1), .val (.int p2), .val (.int p3), .val (.int p4), .val (.int p5), .val (.ref d1), .val (.int (1 : Int32)), .val (.int a), .val (.int b), .val (.int k), .val (.int dd), .val (.int ((k * a) * b)), .val (.double (FP.i2d ((k * a) * b))), .second, .val (.double (FP.i2d ((k * a) * b))), .second] []))
      refine OwnEnds.st (fun t_ k_ => XS.dload X10.here hx rfl (hb hby at_104) rfl k_) ?_
      show OwnEnds _ _ _ _ _ _ _ (T10.setTop (mkF m 106 #[.val (.int p1), .val (.int p2), .val (.int p3), .val (.int p4), .val (.int p5), .val (.ref d1), .val (.int (1 : Int32)), .val (.int a), .val (.int b), .val (.int k), .val (.int dd), .val (.int ((k * a) * b)), .val (.double (FP.i2d ((k * a) * b))), .second, .val (.double (FP.i2d ((k * a) * b))), .second] [(.double (FP.i2d ((k * a) * b)))]))
      refine OwnEnds.st (fun t_ k_ => XS.dload X10.here hx rfl (hb hby at_106) rfl k_) ?_
      show OwnEnds _ _ _ _ _ _ _ (T10.setTop (mkF m 108 #[.val (.int p1), .val (.int p2), .val (.int p3), .val (.int p4), .val (.int p5), .val (.ref d1), .val (.int (1 : Int32)), .val (.int a), .val (.int b), .val (.int k), .val (.int dd), .val (.int ((k * a) * b)), .val (.double (FP.i2d ((k * a) * b))), .second, .val (.double (FP.i2d ((k * a) * b))), .second] [(.double (FP.i2d ((k * a) * b))), (.double (FP.i2d ((k * a) * b)))]))
      refine OwnEnds.st (fun t_ k_ => XS.dcmpS X10.here hx rfl (hb hby at_108) rfl own_self k_) ?_
      show OwnEnds _ _ _ _ _ _ _ (T10.setTop (mkF m 109 #[.val (.int p1), .val (.int p2), .val (.int p3), .val (.int p4), .val (.int p5), .val (.ref d1), .val (.int (1 : Int32)), .val (.int a), .val (.int b), .val (.int k), .val (.int dd), .val (.int ((k * a) * b)), .val (.double (FP.i2d ((k * a) * b))), .second, .val (.double (FP.i2d ((k * a) * b))), .second] [(.int (0 : Int32))]))
      refine OwnEnds.st (fun t_ k_ => XS.ifNo X10.here hx rfl (hb hby at_109) rfl ((if0 _ _).trans (teq (rfl : (0 : Int32) = (0 : Int32))).2) k_) ?_
      show OwnEnds _ _ _ _ _ _ _ (T10.setTop (mkF m 112 #[.val (.int p1), .val (.int p2), .val (.int p3), .val (.int p4), .val (.int p5), .val (.ref d1), .val (.int (1 : Int32)), .val (.int a), .val (.int b), .val (.int k), .val (.int dd), .val (.int ((k * a) * b)), .val (.double (FP.i2d ((k * a) * b))), .second, .val (.double (FP.i2d ((k * a) * b))), .second] []))
      refine OwnEnds.st (fun t_ k_ => XS.iconst X10.here hx rfl (hb hby at_112) k_) ?_
      show OwnEnds _ _ _ _ _ _ _ (T10.setTop (mkF m 113 #[.val (.int p1), .val (.int p2), .val (.int p3), .val (.int p4), .val (.int p5), .val (.ref d1), .val (.int (1 : Int32)), .val (.int a), .val (.int b), .val (.int k), .val (.int dd), .val (.int ((k * a) * b)), .val (.double (FP.i2d ((k * a) * b))), .second, .val (.double (FP.i2d ((k * a) * b))), .second] [(.int (1 : Int32))]))
      refine OwnEnds.st (fun t_ k_ => XS.goto X10.here hx rfl (pc0 := 113) (pc' := 117) rfl (hb hby at_113) (by decide) (by decide) k_) ?_
      show OwnEnds _ _ _ _ _ _ _ (T10.setTop (mkF m 117 #[.val (.int p1), .val (.int p2), .val (.int p3), .val (.int p4), .val (.int p5), .val (.ref d1), .val (.int (1 : Int32)), .val (.int a), .val (.int b), .val (.int k), .val (.int dd), .val (.int ((k * a) * b)), .val (.double (FP.i2d ((k * a) * b))), .second, .val (.double (FP.i2d ((k * a) * b))), .second] [(.int (1 : Int32))]))
      refine own_retN (t := .boolean) X10 hx Bd.returns Bd.notSynchronized (by simp) (hb hby at_117) ?_ (by decide) (by decide)
      show Q0 Z p1 p2 p3 p4 p5 c1 d1 h0 n0 _ T10.heap _
      rw [e10]
      exact ⟨rfl, N9⟩
set_option maxRecDepth 65536 in
set_option maxHeartbeats 40000000 in
theorem comes_1 {Post : Tables → Env → Array Value → State → Outcome → State → Prop} (hpost : ∀ tb e args s v u, (limb_1_1.after args s (.returned v) u = true ∧ limb_1_2.after args s (.returned v) u = true ∧ True) → FrameEnd s (.returned v) u (Jvm.fieldLocs frame_1_writes args s ++ Jvm.arrayLocs frame_1_arrays args s ++ Jvm.staticLocs frame_1_statics s) 0 0 → Post tb e args s (.returned v) u) :
    ArmFor flags0 classFile x code maxLocals ret World_1 tables_1 room_1 Calls_1 rest_1 Pre_1 Post := by
  intro l hfl _ _ p e ha hc hk s m args below hf hA hF happ hP
  obtain ⟨hcalls, hrest, hpre⟩ := hP
  obtain ⟨-, -, -, hnamed, -, -, -, hat⟩ := (Spec.applies_iff hf).mp happ
  obtain ⟨hg, hn⟩ := and_e (Cond.before_iff.mp (show (Jvm.Cond.and given_1 narrow_1).before args s = true from hpre))
  obtain ⟨hcount, ga0⟩ := and_e hg
  obtain ⟨gb0, ga1⟩ := and_e ga0
  obtain ⟨gb1, ga2⟩ := and_e ga1
  obtain ⟨gb2, ga3⟩ := and_e ga2
  obtain ⟨gb3, ga4⟩ := and_e ga3
  obtain ⟨w0, w1, w2, w3, w4, rfl⟩ : ∃ w0 w1 w2 w3 w4 : Value, args = #[w0, w1, w2, w3, w4] := by
    have hs : args.size = 5 := by simpa [Cond.value, given_1] using hcount
    obtain ⟨L⟩ := args
    match L, hs with
    | [w0, w1, w2, w3, w4], _ => exact ⟨w0, w1, w2, w3, w4, rfl⟩
  have hw := fun d (hd : d ∈ tables_1) => atoms_spec (ws := Jvm.Cond.code x code maxLocals ret :: tables_1) hat d (List.mem_cons_of_mem _ hd)
  have hfit : Fit s := fun {y c} hc i hi => by
    obtain ⟨ha, rfl⟩ := Array.getElem?_eq_some_iff.mp hc
    have q := List.all_eq_true.mp ((Array.all_eq_true_iff_forall_mem.mp hF) _ (Array.getElem_mem ha)) i (List.mem_range.mpr hi)
    simpa [Array.getElem?_eq_getElem hi] using q
  obtain ⟨i0, ei0⟩ := is_v gb0
  obtain rfl : w0 = (.int i0) := Option.some.inj ei0
  obtain ⟨i1, ei1⟩ := is_v gb1
  obtain rfl : w1 = (.int i1) := Option.some.inj ei1
  obtain ⟨i2, ei2⟩ := is_v gb2
  obtain rfl : w2 = (.int i2) := Option.some.inj ei2
  obtain ⟨i3, ei3⟩ := is_v gb3
  obtain rfl : w3 = (.int i3) := Option.some.inj ei3
  obtain ⟨i4, ei4⟩ := is_v ga4
  obtain rfl : w4 = (.int i4) := Option.some.inj ei4
  obtain ⟨n1, n2⟩ := and_e hn
  obtain ⟨n2, n3⟩ := and_e n2
  obtain ⟨n3, n4⟩ := and_e n3
  obtain ⟨c1, ev1⟩ := exa_v n1
  obtain ⟨d1, ev2⟩ := exa_v n3
  have E1 := Exa.start ev1 n1
  have E2 := Exa.start ev2 n3
  have F1 := Fld.start ((fld_at ev1).symm.trans (own_eqint n2))
  have F2 := Fld.start ((fld_at ev2).symm.trans (own_eqint n4))
  have S1 := Sta.start ev1 (Or.inr ⟨(hw _ (List.mem_of_getElem? (i := 1) rfl)), (hw _ (List.mem_of_getElem? (i := 2) rfl))⟩)
  have S2 := Sta.start ev2 (Or.inr ⟨(hw _ (List.mem_of_getElem? (i := 1) rfl)), (hw _ (List.mem_of_getElem? (i := 19) rfl))⟩)
  have hne : ¬ (c1 = d1) := by
    rintro rfl
    have q := (own_eqint n2).symm.trans ((fld_at ev1).trans ((fld_at ev2).symm.trans (own_eqint n4)))
    exact absurd (Value.int.inj (Option.some.inj q)) (by decide)
  obtain ⟨n, o, h1, h2, h3, _, L, rfl, ⟨rfl, N⟩, hq⟩ := rm0 l s _ hw tables_1 i0 i1 i2 i3 i4 c1 d1 s.heap s.heap.size (Nat.le_refl _) S1 S2 E1 E2 F1 F2 hne p e ha hc hk s m _ below hf ((Spec.applies_iff_loose hf).mp happ).1 ⟨rfl, State.Warmed39.refl s, rfl⟩ trivial
  refine ⟨n, _, h1, h2, h3, hpost _ _ _ _ _ _ ⟨Cond.after_iff.mpr rfl, Cond.after_iff.mpr (eq_i res_at (Term.int_eval (1)) rfl), trivial⟩ ⟨hq.1, hq.2.1, (hq.2.2.sift fun y hy => Or.inr (N y hy)).mono (by decide) (by decide)⟩⟩
theorem main_1_1 : Claimed_1_1 := comes_1 fun _ _ _ _ _ _ h hF => ⟨h.1, hF⟩
theorem main_1_2 : Claimed_1_2 := comes_1 fun _ _ _ _ _ _ h hF => ⟨h.2.1, hF⟩
end Jvm.Pilot.@@N@@
namespace Jvm.Pilot.@@N@@
open Jvm Jvm.ClassFile Sem Op Lib Jvm.Free Jvm.Stand Jvm.Pilot.@@N@@.Jvm.D
/-! MADE BY PROGRAM (witnessworld.py) out of the Statement's table words and the real class files: 13 classes; the members and pool entries that the words name. The judged class is class 1, her method 1. -/
namespace start1
open Jvm.ClassFile
def u (s : String) : CpInfo := .utf8 (stringToUtf16 s)
/-- a pool by its gaps: so many unusable entries, then the entry; so many at the end -/
def gap : Nat → List CpInfo → List CpInfo
  | 0, r => r
  | n + 1, r => .unusable :: gap n r
def poolList (es : List (Nat × CpInfo)) (last : Nat) : List CpInfo := es.foldr (fun e r => gap e.1 (e.2 :: r)) (gap last [])
def pool (es : List (Nat × CpInfo)) (last : Nat) : Array CpInfo := ⟨poolList es last⟩
def fileOf (pool : Array CpInfo) (this : Nat) (attrs : Array Attribute := #[]) (ms : Array MethodInfo := #[]) (fl : Nat := 33) (sup : Nat := 0) (ifs : Array Nat := #[]) (fds : Array FieldInfo := #[]) : ClassFile where
  minorVersion := 0
  majorVersion := 65
  constantPool := pool
  accessFlags := fl
  thisClass := this
  superClass := sup
  interfaces := ifs
  fields := fds
  methods := ms
  attributes := attrs
def plain (name : String) (sup : Option ClassId) : Class where
  name := name
  kind := .ordinary
  loader := none
  accessFlags := 33
  super := sup
  interfaces := #[]
  cf := none
  fields := #[]
  methods := #[]
  instanceTypes := #[]
  staticTypes := #[]
  resolved := #[]
  callSites := []
  init := .initialized
  statics := none
  mirror := none

def pool0 : Array CpInfo := pool [(5, u "<init>"), (0, u "()V"), (1, .class_ 10), (1, u "java/lang/Object")] 113

def k0m0 : Method := { name := "<init>", desc := "()V", sig := { parameters := [], returnType := none }, accessFlags := 1, code := none }
/-- java/lang/Object -/
def k0 : Class := { plain "java/lang/Object" none with
  accessFlags := 33
  interfaces := #[]
  cf := some (fileOf pool0 8 #[] #[{ accessFlags := 1, nameIndex := 5, descriptorIndex := 6, attributes := #[] }] 33 0 #[] #[])
  fields := #[]
  methods := #[k0m0]
  instanceTypes := #[]
  staticTypes := #[]
  resolved := Array.replicate 124 none
  statics := none }

def pool1 : Array CpInfo := pool [(2, .class_ 4), (1, u "java/lang/Object"), (0, u "<init>"), (0, u "()V"), (0, .fieldref 8 9), (0, .class_ 10), (0, .nameAndType 11 12), (0, u "com/example/genius_loci/geniusloci/core/Similarity"), (0, u "COSINE"), (0, u "Lcom/example/genius_loci/geniusloci/core/Similarity;"), (0, .fieldref 8 14), (0, .nameAndType 15 12), (0, u "DOT"), (0, .integer 1000000), (0, .methodref 8 18), (0, .nameAndType 19 20), (0, u "of"), (0, u "(DDD)D"), (0, .class_ 22), (0, u "com/example/genius_loci/geniusloci/core/SimilarityOfPinLaw"), (2, u "law"), (0, u "(IIIII)Z")] 3

def k1m0 : Method := { name := "<init>", desc := "()V", sig := { parameters := [], returnType := none }, accessFlags := 1, code := none }
def k1c1 : Code := { maxStack := 7, maxLocals := 16, code := code, exceptionTable := #[], attributes := #[] }
def k1m1 : Method := { name := "law", desc := "(IIIII)Z", sig := { parameters := [.int, .int, .int, .int, .int], returnType := some .boolean }, accessFlags := 9, code := some k1c1 }
/-- com/example/genius_loci/geniusloci/core/SimilarityOfPinLaw -/
def k1 : Class := { plain "com/example/genius_loci/geniusloci/core/SimilarityOfPinLaw" (some 0) with
  accessFlags := 49
  interfaces := #[]
  cf := some (fileOf pool1 21 #[] #[{ accessFlags := 1, nameIndex := 5, descriptorIndex := 6, attributes := #[] }, { accessFlags := 9, nameIndex := 25, descriptorIndex := 26, attributes := #[] }] 49 2 #[] #[])
  fields := #[]
  methods := #[k1m0, k1m1]
  instanceTypes := #[]
  staticTypes := #[]
  resolved := Array.replicate 30 none
  statics := none }

def pool2 : Array CpInfo := pool [(1, .class_ 2), (0, u "java/lang/constant/Constable"), (0, .class_ 4), (0, u "java/lang/Object")] 6

/-- java/lang/constant/Constable -/
def k2 : Class := { plain "java/lang/constant/Constable" (some 0) with
  accessFlags := 1537
  interfaces := #[]
  cf := some (fileOf pool2 1 #[] #[] 1537 3 #[] #[])
  fields := #[]
  methods := #[]
  instanceTypes := #[]
  staticTypes := #[]
  resolved := Array.replicate 11 none
  statics := none }

def pool3 : Array CpInfo := pool [(1, .class_ 2), (0, u "java/lang/Comparable"), (0, .class_ 4), (0, u "java/lang/Object")] 7

/-- java/lang/Comparable -/
def k3 : Class := { plain "java/lang/Comparable" (some 0) with
  accessFlags := 1537
  interfaces := #[]
  cf := some (fileOf pool3 1 #[] #[] 1537 3 #[] #[])
  fields := #[]
  methods := #[]
  instanceTypes := #[]
  staticTypes := #[]
  resolved := Array.replicate 12 none
  statics := none }

def pool4 : Array CpInfo := pool [(1, .class_ 2), (0, u "java/io/Serializable"), (0, .class_ 4), (0, u "java/lang/Object")] 2

/-- java/io/Serializable -/
def k4 : Class := { plain "java/io/Serializable" (some 0) with
  accessFlags := 1537
  interfaces := #[]
  cf := some (fileOf pool4 1 #[] #[] 1537 3 #[] #[])
  fields := #[]
  methods := #[]
  instanceTypes := #[]
  staticTypes := #[]
  resolved := Array.replicate 7 none
  statics := none }

def pool5 : Array CpInfo := pool [(2, .class_ 4), (1, u "java/lang/Enum"), (0, u "name"), (0, u "Ljava/lang/String;"), (0, .fieldref 2 8), (0, .nameAndType 9 10), (0, u "ordinal"), (0, u "I"), (1, .class_ 14), (1, u "java/lang/Object"), (4, u "hash"), (86, .class_ 108), (1, u "java/lang/Enum$EnumDesc"), (2, .class_ 112), (0, u "java/lang/constant/Constable"), (0, .class_ 114), (0, u "java/lang/Comparable"), (0, .class_ 116), (0, u "java/io/Serializable"), (9, u "()I")] 77

def k5c0 : Code := { maxStack := 1, maxLocals := 1, code := jdk_37_method_2_code, exceptionTable := #[], attributes := #[] }
def k5m0 : Method := { name := "ordinal", desc := "()I", sig := { parameters := [], returnType := some .int }, accessFlags := 17, code := some k5c0 }
/-- java/lang/Enum -/
def k5 : Class := { plain "java/lang/Enum" (some 0) with
  accessFlags := 1057
  interfaces := #[2, 3, 4]
  cf := some (fileOf pool5 2 #[.nestMembers #[106]] #[{ accessFlags := 17, nameIndex := 9, descriptorIndex := 126, attributes := #[] }] 1057 12 #[111, 113, 115] #[{ accessFlags := 18, nameIndex := 5, descriptorIndex := 6, attributes := #[] }, { accessFlags := 18, nameIndex := 9, descriptorIndex := 10, attributes := #[] }, { accessFlags := 2, nameIndex := 19, descriptorIndex := 10, attributes := #[] }])
  fields := #[{ name := "name", type := (.object "java/lang/String"), accessFlags := 18, slot := 0, constantValue := 0 }, { name := "ordinal", type := .int, accessFlags := 18, slot := 1, constantValue := 0 }, { name := "hash", type := .int, accessFlags := 2, slot := 2, constantValue := 0 }]
  methods := #[k5m0]
  instanceTypes := #[(.object "java/lang/String"), .int, .int]
  staticTypes := #[]
  resolved := Array.replicate 204 none
  statics := none }

def pool6 : Array CpInfo := pool [(9, .class_ 10), (0, u "com/example/genius_loci/geniusloci/core/Labelled"), (49, .class_ 61), (0, u "java/lang/Object")] 32

/-- com/example/genius_loci/geniusloci/core/Labelled -/
def k6 : Class := { plain "com/example/genius_loci/geniusloci/core/Labelled" (some 0) with
  accessFlags := 1537
  interfaces := #[]
  cf := some (fileOf pool6 9 #[] #[] 1537 60 #[] #[])
  fields := #[]
  methods := #[]
  instanceTypes := #[]
  staticTypes := #[]
  resolved := Array.replicate 94 none
  statics := none }

def pool7 : Array CpInfo := pool [(1, .class_ 2), (0, u "com/example/genius_loci/geniusloci/core/Similarity"), (2, u "COSINE"), (0, u "Lcom/example/genius_loci/geniusloci/core/Similarity;"), (2, u "DOT"), (2, u "$VALUES"), (0, u "[Lcom/example/genius_loci/geniusloci/core/Similarity;"), (6, .class_ 22), (1, u "java/lang/Enum"), (8, u "label"), (0, u "Ljava/lang/String;"), (0, .methodref 1 34), (0, .nameAndType 35 36), (0, u "ordinal"), (0, u "()I"), (18, .class_ 56), (0, u "com/example/genius_loci/geniusloci/core/Labelled"), (8, u "of"), (0, u "(DDD)D")] 6

def k7c0 : Code := { maxStack := 6, maxLocals := 8, code := prog_29_method_5_code, exceptionTable := #[], attributes := #[] }
def k7m0 : Method := { name := "of", desc := "(DDD)D", sig := { parameters := [.double, .double, .double], returnType := some .double }, accessFlags := 1, code := some k7c0 }
/-- com/example/genius_loci/geniusloci/core/Similarity -/
def k7 : Class := { plain "com/example/genius_loci/geniusloci/core/Similarity" (some 5) with
  accessFlags := 16433
  interfaces := #[6]
  cf := some (fileOf pool7 1 #[] #[{ accessFlags := 1, nameIndex := 65, descriptorIndex := 66, attributes := #[] }] 16433 20 #[55] #[{ accessFlags := 16409, nameIndex := 5, descriptorIndex := 6, attributes := #[] }, { accessFlags := 16409, nameIndex := 9, descriptorIndex := 6, attributes := #[] }, { accessFlags := 18, nameIndex := 31, descriptorIndex := 32, attributes := #[] }, { accessFlags := 4122, nameIndex := 12, descriptorIndex := 13, attributes := #[] }])
  fields := #[{ name := "COSINE", type := (.object "com/example/genius_loci/geniusloci/core/Similarity"), accessFlags := 16409, slot := 0, constantValue := 0 }, { name := "DOT", type := (.object "com/example/genius_loci/geniusloci/core/Similarity"), accessFlags := 16409, slot := 1, constantValue := 0 }, { name := "label", type := (.object "java/lang/String"), accessFlags := 18, slot := 3, constantValue := 0 }, { name := "$VALUES", type := (.array (.object "com/example/genius_loci/geniusloci/core/Similarity")), accessFlags := 4122, slot := 2, constantValue := 0 }]
  methods := #[k7m0]
  instanceTypes := #[(.object "java/lang/String"), .int, .int, (.object "java/lang/String")]
  staticTypes := #[(.object "com/example/genius_loci/geniusloci/core/Similarity"), (.object "com/example/genius_loci/geniusloci/core/Similarity"), (.array (.object "com/example/genius_loci/geniusloci/core/Similarity"))]
  resolved := Array.replicate 73 none
  statics := some 0 }

def pool8 : Array CpInfo := pool [(1, u "java/lang/Cloneable"), (0, .class_ 1), (0, u "java/lang/Object"), (0, .class_ 3)] 3

/-- java/lang/Cloneable -/
def k8 : Class := { plain "java/lang/Cloneable" (some 0) with
  accessFlags := 1537
  interfaces := #[]
  cf := some (fileOf pool8 2 #[] #[] 1537 4 #[] #[])
  fields := #[]
  methods := #[]
  instanceTypes := #[]
  staticTypes := #[]
  resolved := Array.replicate 8 none
  statics := none }

/-- the primitive byte -/
def k9 : Class := { plain "byte" none with kind := .primitive 'B', accessFlags := 0x411 }
/-- [B -/
def k10 : Class := { plain "[B" (some 0) with kind := .array 9 .byte, interfaces := #[8, 4], accessFlags := 1041 }

/-- the primitive int -/
def k11 : Class := { plain "int" none with kind := .primitive 'I', accessFlags := 0x411 }
/-- [I -/
def k12 : Class := { plain "[I" (some 0) with kind := .array 11 .int, interfaces := #[8, 4], accessFlags := 1041 }

def heap : Heap := #[{ cls := 7, slots := #[.ref 1, .ref 2, .null], vm := .statics 7 },
  { cls := 7, slots := #[.null, .int 0, .int 0, .null], vm := .none },
  { cls := 7, slots := #[.null, .int 1, .int 0, .null], vm := .none }]
def classes : Array Class := #[k0, k1, k2, k3, k4, k5, k6, k7, k8, k9, k10, k11, k12]
def interned : List (Array UInt16 × Addr) := []
def slotsUsed : Nat := 11
def theMethod : MethodId := ⟨1, 1⟩
def args0 : Array Value := #[.int 5, .int 7, .int 3, .int 1, .int 2]
def aboutOver (below : List Frame) : State where
  vm := { classes := classes, interned := interned.toArray }
  heap := heap
  slotsUsed := slotsUsed
  threads := #[{ frames := .invoking theMethod args0 :: below }]
def below0 : List Frame := [.native { method := ⟨0, 0⟩, args := #[] }]
def about1 : State := aboutOver below0
def p0 : Program := .bare "" "" ""
def e0 : Env := launch0.env 0 0 0
theorem w_frames : about1.frames = Frame.invoking theMethod args0 :: below0 := rfl
set_option maxRecDepth 65536 in
theorem w_args : argsFit about1.vm theMethod args0 = true := by decide +kernel
set_option maxRecDepth 65536 in
theorem w_heap : heapFits about1 = true := by decide +kernel
set_option maxRecDepth 65536 in
theorem w_runnable : about1.curStatus? = some .runnable := by decide +kernel
set_option maxRecDepth 65536 in
theorem w_alone : about1.alone = true := by decide +kernel
set_option maxRecDepth 65536 in
theorem w_named : about1.methodNamed? x = some theMethod := by decide +kernel
set_option maxRecDepth 65536 in
theorem w_hears : about1.hears theMethod below0 = true := by decide +kernel
set_option maxRecDepth 65536 in
theorem w_ripe : about1.ripe theMethod args0 below0 = true := by decide +kernel
theorem w_running : about1.status = .running := rfl
set_option maxRecDepth 65536 in
theorem w_room : about1.hasRoom e0.platform room_1 = true :=
  launch0.hasRoom_least _ room_1 (by decide +kernel) (by decide +kernel) (by decide +kernel) (by decide +kernel) (by decide +kernel) (by decide +kernel)
theorem allAtoms_all (ts : List Jvm.Cond) (a : Array Jvm.Value) (st : Jvm.State) : (allAtoms ts).before a st = ts.all (fun c => c.before a st) := by
  induction ts with
  | nil => rfl
  | cons c t ih =>
    show (Jvm.Cond.and c (allAtoms t)).before a st = _
    rw [Jvm.Cond.before_and, ih, List.all_cons]
def words1 : List Jvm.Cond := Jvm.Cond.code x code maxLocals ret :: tables_1
/-- a 'code' word, met by the world's own term for the bytes: nothing is compared byte by byte -/
theorem code_word {y : MethodName} {bytes : ByteArray} {mx : Nat} {rt : Option FieldType} {a : Array Value} {s : State} {m : MethodId} {meth : Method} {c : Code} (h1 : s.methodNamed? y = some m) (h2 : s.vm.method? m = some meth) (h3 : meth.code = some c) (h4 : c.code = bytes)
    (h5 : (c.maxLocals == mx && c.exceptionTable.isEmpty && decide (c.maxStack ≤ mostOperands) && decide (meth.sig.returnType = rt) && !meth.locks && decide (parseMethodDescriptor y.desc = some meth.sig)) = true) : (Jvm.Cond.code y bytes mx rt).before a s = true := by
  simp only [Bool.and_eq_true, beq_iff_eq, Bool.not_eq_true', decide_eq_true_eq] at h5
  obtain ⟨⟨⟨⟨⟨g1, g2⟩, g3⟩, g4⟩, g5⟩, g6⟩ := h5
  simp [Cond.before, Cond.holds, Cond.value, h1, h2, h3, h4, g1, g2, g3, g4, g5, g6]
def isCode : Jvm.Cond → Bool
  | .code _ _ _ _ => true
  | _ => false
theorem all_split {L : List Jvm.Cond} {P : Jvm.Cond → Bool} (h1 : L.all (fun c => isCode c || P c) = true) (h2 : ∀ c ∈ L.filter isCode, P c = true) : L.all P = true := by
  refine List.all_eq_true.mpr fun c hc => ?_
  have h := List.all_eq_true.mp h1 c hc
  rcases Bool.eq_false_or_eq_true (isCode c) with hi | hi
  · exact h2 c (List.mem_filter.mpr ⟨hc, hi⟩)
  · simpa [hi] using h
set_option maxRecDepth 65536 in
theorem w_c0 : (Jvm.Cond.code x code maxLocals ret).before args0 about1 = true := code_word (m := ⟨1, 1⟩) (meth := k1m1) (c := k1c1) (by decide +kernel) rfl rfl rfl (by decide +kernel)
set_option maxRecDepth 65536 in
theorem w_c1 : (Jvm.Cond.code ({ cls := "com/example/genius_loci/geniusloci/core/Similarity", name := "of", desc := "(DDD)D" } : Jvm.MethodName) prog_29_method_5_code (8 : Nat) (Option.some Jvm.ClassFile.FieldType.double)).before args0 about1 = true := code_word (m := ⟨7, 0⟩) (meth := k7m0) (c := k7c0) (by decide +kernel) rfl rfl rfl (by decide +kernel)
set_option maxRecDepth 65536 in
theorem w_c2 : (Jvm.Cond.code ({ cls := "java/lang/Enum", name := "ordinal", desc := "()I" } : Jvm.MethodName) jdk_37_method_2_code (1 : Nat) (Option.some Jvm.ClassFile.FieldType.int)).before args0 about1 = true := code_word (m := ⟨5, 0⟩) (meth := k5m0) (c := k5c0) (by decide +kernel) rfl rfl rfl (by decide +kernel)
def codes1 : List Jvm.Cond := [Jvm.Cond.code x code maxLocals ret, Jvm.Cond.code ({ cls := "com/example/genius_loci/geniusloci/core/Similarity", name := "of", desc := "(DDD)D" } : Jvm.MethodName) prog_29_method_5_code (8 : Nat) (Option.some Jvm.ClassFile.FieldType.double), Jvm.Cond.code ({ cls := "java/lang/Enum", name := "ordinal", desc := "()I" } : Jvm.MethodName) jdk_37_method_2_code (1 : Nat) (Option.some Jvm.ClassFile.FieldType.int)]
set_option maxRecDepth 65536 in
theorem codes_eq : words1.filter isCode = codes1 := rfl
theorem w_codes : ∀ c ∈ words1.filter isCode, c.before args0 about1 = true := by
  rw [codes_eq]
  intro c hc
  simp only [codes1, List.mem_cons, List.not_mem_nil, or_false] at hc
  rcases hc with rfl | rfl | rfl
  · exact w_c0
  · exact w_c1
  · exact w_c2
set_option maxRecDepth 65536 in
theorem w_t1 : words1.all (fun c => isCode c || c.before args0 about1) = true := by decide +kernel
theorem w_tables : (allAtoms (Jvm.Cond.code x code maxLocals ret :: tables_1)).before args0 about1 = true := by
  rw [allAtoms_all]
  show words1.all (fun c => c.before args0 about1) = true
  refine all_split ?_ w_codes
  rw [w_t1]
set_option maxRecDepth 65536 in
theorem w_case : (Jvm.Cond.and given_1 narrow_1).before args0 about1 = true := by decide +kernel
theorem w_applies : (headSpec (Jvm.Cond.code x code maxLocals ret :: tables_1) room_1).applies x e0.platform about1 = true :=
  (Spec.applies_iff w_frames).mpr ⟨w_running, w_runnable, w_alone, w_named, w_hears, w_ripe, w_room, w_tables⟩
theorem atStart : AtStart classFile x code maxLocals ret World_1 tables_1 room_1 Calls_1 rest_1 Pre_1 launch0 p0 e0 about1 theMethod args0 below0 :=
  ⟨lists_1, trivial, launch0.admits_env _ _ _, launch0.least_env, fairChoices_fair.cas, fairChoices_fair.clock, w_frames, w_args, w_heap, w_applies, trivial, trivial, w_case⟩
end start1
theorem witness_1 : WitnessClaimed_1 := ⟨start1.p0, start1.e0, start1.about1, start1.theMethod, start1.args0, start1.below0, start1.atStart⟩
end Jvm.Pilot.@@N@@
