import JvmDerived
import JvmDerived.Pilot.@@N@@Statement
import JvmDerived.Pilot.@@N@@Code
set_option linter.unusedVariables false
set_option linter.unusedSimpArgs false
namespace Jvm.RoadKit
open Sem ClassFile Op Lib Jvm.Stand Jvm.Free Jvm.LawKit
section OwnNew
variable {p : Program} {l : Launch} {e : Env} {R : Room} {s : State} {m : MethodId} {args : Array Value} {below : List Frame} {meth : Method} {c : Code} {T : State} {locs : List Loc} {cells slots : Nat}
/-- from S0 the run comes to the method's return, with what Q says there -/
def OwnEnds (p : Program) (e : Env) (below : List Frame) (s : State) (Q : Option Value → Heap → List Loc → Prop) (ck sk : Nat) (S0 : State) : Prop :=
  ∃ s₂ o, Steps p.tables e below S0 s₂ ∧ s₂.status = .running ∧ Ended s₂ below o ∧ ∃ v L, o = .returned v ∧ Q v s₂.heap L ∧ FrameEnd s o s₂ L ck sk
theorem OwnEnds.st {Q : Option Value → Heap → List Loc → Prop} {ck sk : Nat} {S0 S1 : State} (h : ∀ t, Steps p.tables e below S1 t → Steps p.tables e below S0 t) (k : OwnEnds p e below s Q ck sk S1) : OwnEnds p e below s Q ck sk S0 := by
  obtain ⟨s₂, o, h1, h2⟩ := k
  exact ⟨s₂, o, h _ h1, h2⟩
theorem OwnEnds.go {Q : Option Value → Heap → List Loc → Prop} {ck sk : Nat} {S0 S1 : State} (h : Steps p.tables e below S0 S1) (k : OwnEnds p e below s Q ck sk S1) : OwnEnds p e below s Q ck sk S0 := by
  obtain ⟨s₂, o, h1, h2⟩ := k
  exact ⟨s₂, o, h.trans h1, h2⟩
theorem own_out (X : Stand p l e R s m args below meth c T locs cells slots) (hx : p.tables.exec = Jvm.exec) {pc : Nat} {Ls : Array Slot} {w : Value} {t : FieldType} {i : Instr} {rest : List Value} (hret : meth.sig.returnType = some t) (hlocks : meth.locks = false) (hn : narrow t w = w)
    (hi : (i = .ireturn ∧ (t = .int ∨ t = .boolean ∨ t = .byte ∨ t = .char ∨ t = .short) ∧ ∃ z, w = .int z) ∨ (i = .lreturn ∧ t = .long ∧ ∃ z, w = .long z) ∨ (i = .dreturn ∧ t = .double ∧ ∃ z, w = .double z) ∨ (i = .freturn ∧ t = .float ∧ ∃ z, w = .float z) ∨ (i = .areturn ∧ t.isReference = true ∧ w.isRef = true))
    (hd : decode c.code pc = .ok (i, 1)) {Q : Option Value → Heap → List Loc → Prop} {ck sk : Nat} (hQ : Q (some w) T.heap locs) (hc : cells ≤ ck) (hs : slots ≤ sk) : OwnEnds p e below s Q ck sk (T.setTop (mkF m pc Ls (w :: rest))) := by
  obtain ⟨fs, hr, hrun, hended, hW, hsame⟩ := X.leave (v := some w) (fun h => by rw [hret] at h; cases h) hlocks
  exact ⟨_, _, retOut X hx hret hn hi hd hr, hrun, hended, _, _, rfl, hQ, ⟨_, rfl⟩, hW, hsame.mono hc hs⟩
theorem own_retI (X : Stand p l e R s m args below meth c T locs cells slots) (hx : p.tables.exec = Jvm.exec) {pc : Nat} {Ls : Array Slot} {z : Int32} {rest : List Value} (hret : meth.sig.returnType = some .int) (hlocks : meth.locks = false) (hd : decode c.code pc = .ok (.ireturn, 1))
    {Q : Option Value → Heap → List Loc → Prop} {ck sk : Nat} (hQ : Q (some (.int z)) T.heap locs) (hc : cells ≤ ck) (hs : slots ≤ sk) : OwnEnds p e below s Q ck sk (T.setTop (mkF m pc Ls (.int z :: rest))) :=
  own_out X hx hret hlocks rfl (Or.inl ⟨rfl, Or.inl rfl, _, rfl⟩) hd hQ hc hs
theorem own_retJ (X : Stand p l e R s m args below meth c T locs cells slots) (hx : p.tables.exec = Jvm.exec) {pc : Nat} {Ls : Array Slot} {z : Int64} {rest : List Value} (hret : meth.sig.returnType = some .long) (hlocks : meth.locks = false) (hd : decode c.code pc = .ok (.lreturn, 1))
    {Q : Option Value → Heap → List Loc → Prop} {ck sk : Nat} (hQ : Q (some (.long z)) T.heap locs) (hc : cells ≤ ck) (hs : slots ≤ sk) : OwnEnds p e below s Q ck sk (T.setTop (mkF m pc Ls (.long z :: rest))) :=
  own_out X hx hret hlocks rfl (Or.inr (Or.inl ⟨rfl, rfl, _, rfl⟩)) hd hQ hc hs
theorem own_retD (X : Stand p l e R s m args below meth c T locs cells slots) (hx : p.tables.exec = Jvm.exec) {pc : Nat} {Ls : Array Slot} {z : UInt64} {rest : List Value} (hret : meth.sig.returnType = some .double) (hlocks : meth.locks = false) (hd : decode c.code pc = .ok (.dreturn, 1))
    {Q : Option Value → Heap → List Loc → Prop} {ck sk : Nat} (hQ : Q (some (.double z)) T.heap locs) (hc : cells ≤ ck) (hs : slots ≤ sk) : OwnEnds p e below s Q ck sk (T.setTop (mkF m pc Ls (.double z :: rest))) :=
  own_out X hx hret hlocks rfl (Or.inr (Or.inr (Or.inl ⟨rfl, rfl, _, rfl⟩))) hd hQ hc hs
theorem own_retA (X : Stand p l e R s m args below meth c T locs cells slots) (hx : p.tables.exec = Jvm.exec) {pc : Nat} {Ls : Array Slot} {w : Value} {t : FieldType} {rest : List Value} (hret : meth.sig.returnType = some t) (hlocks : meth.locks = false) (ht : t.isReference = true) (hw : w.isRef = true) (hd : decode c.code pc = .ok (.areturn, 1))
    {Q : Option Value → Heap → List Loc → Prop} {ck sk : Nat} (hQ : Q (some w) T.heap locs) (hc : cells ≤ ck) (hs : slots ≤ sk) : OwnEnds p e below s Q ck sk (T.setTop (mkF m pc Ls (w :: rest))) :=
  own_out X hx hret hlocks (by cases t <;> first | rfl | cases ht) (Or.inr (Or.inr (Or.inr (Or.inr ⟨rfl, ht, hw⟩)))) hd hQ hc hs
theorem own_retN (X : Stand p l e R s m args below meth c T locs cells slots) (hx : p.tables.exec = Jvm.exec) {pc : Nat} {Ls : Array Slot} {z : Int32} {t : FieldType} {rest : List Value} (hret : meth.sig.returnType = some t) (hlocks : meth.locks = false) (ht : t = .boolean ∨ t = .byte ∨ t = .char ∨ t = .short) (hd : decode c.code pc = .ok (.ireturn, 1))
    {Q : Option Value → Heap → List Loc → Prop} {ck sk : Nat} (hQ : Q (some (.int (nar t z))) T.heap locs) (hc : cells ≤ ck) (hs : slots ≤ sk) : OwnEnds p e below s Q ck sk (T.setTop (mkF m pc Ls (.int z :: rest))) := by
  obtain ⟨fs, hr, hrun, hended, hW, hsame⟩ := X.leave (v := some (.int (nar t z))) (fun h => by rw [hret] at h; cases h) hlocks
  exact ⟨_, _, retN X hx hret ht hd hr, hrun, hended, _, _, rfl, hQ, ⟨_, rfl⟩, hW, hsame.mono hc hs⟩
theorem own_retV (X : Stand p l e R s m args below meth c T locs cells slots) (hx : p.tables.exec = Jvm.exec) {pc : Nat} {Ls : Array Slot} (hret : meth.sig.returnType = none) (hlocks : meth.locks = false) (hd : decode c.code pc = .ok (.return_, 1))
    {Q : Option Value → Heap → List Loc → Prop} {ck sk : Nat} (hQ : Q none T.heap locs) (hc : cells ≤ ck) (hs : slots ≤ sk) : OwnEnds p e below s Q ck sk (T.setTop (mkF m pc Ls [])) := by
  obtain ⟨fs, hr, hrun, hended, hW, hsame⟩ := X.leave (v := none) (fun _ => rfl) hlocks
  exact ⟨_, _, X.returnOut hx hret hd hr, hrun, hended, _, _, rfl, hQ, ⟨_, rfl⟩, hW, hsame.mono hc hs⟩
end OwnNew
end Jvm.RoadKit
@@BLOCK:NumsL.lean.txt@@
namespace Jvm.Pilot.@@N@@
open Jvm Jvm.ClassFile Sem Op Lib Jvm.Free Jvm.Stand Jvm.LawKit Jvm.RoadKit Bundle Jvm.Pilot.@@N@@.Jvm.D
theorem pd_0 : parseMethodDescriptor "(J)J" = some ⟨[.long], some .long⟩ := by decide +kernel
theorem pd_1 : parseMethodDescriptor "(JJ)J" = some ⟨[.long, .long], some .long⟩ := by decide +kernel
theorem pd_2 : parseMethodDescriptor "(ZJJJJ)D" = some ⟨[.boolean, .long, .long, .long, .long], some .double⟩ := by decide +kernel
theorem pn_0 : plainName "com/example/equate/equate/mathml/Likeness" = true := by first | (simp [plainName, overriddenIn]; done) | decide +kernel
theorem pn_1 : plainName "com/example/equate/equate/mathml/LikenessLikenessPinLaw" = true := by first | (simp [plainName, overriddenIn]; done) | decide +kernel
theorem own_lc0 {x y : Int64} (h : x = y) : lcmpW x y = 0 := by
  subst h
  unfold lcmpW
  rw [if_neg (by rw [gt_iff_lt, Int64.lt_iff_toInt_lt]; omega), if_pos rfl]
theorem own_lc1 {x y : Int64} (h : ¬ (x = y)) : ¬ (lcmpW x y = 0) := by
  unfold lcmpW
  rw [if_neg h]
  split <;> decide
theorem own_lcge {x y : Int64} (h : ¬ (x < y)) : ¬ (lcmpW x y < 0) := by
  unfold lcmpW
  split
  · decide
  · rename_i h1
    have : x = y := by
      apply Int64.toInt_inj.mp
      rw [gt_iff_lt, Int64.lt_iff_toInt_lt] at h1
      rw [Int64.lt_iff_toInt_lt] at h
      omega
    rw [if_pos this]; decide
theorem own_lclt {x y : Int64} (h : x < y) : lcmpW x y < 0 := by
  rw [Int64.lt_iff_toInt_lt] at h
  unfold lcmpW
  rw [if_neg (by rw [gt_iff_lt, Int64.lt_iff_toInt_lt]; omega), if_neg (by intro e; rw [e] at h; omega)]; decide
theorem own_lcgt {x y : Int64} (h : y < x) : (0 : Int32) < lcmpW x y := by
  unfold lcmpW; rw [if_pos h]; decide
theorem own_lcle {x y : Int64} (h : ¬ (y < x)) : ¬ ((0 : Int32) < lcmpW x y) := by
  unfold lcmpW; rw [if_neg h]; split <;> decide
theorem own_toI (k : Nat) (h : k < 9223372036854775808) : (Int64.ofNat k).toInt = (k : Int) := Int64.toInt_ofNat_of_lt h
abbrev own_c : UInt64 := 4652007308841189376
def own_r (n : Int64) : UInt64 := FP.ddiv (FP.l2d n) 4652007308841189376
def own_ok (n : Nat) : Bool :=
  decide (cmpValue (FP.dcmp (own_r (Int64.ofNat n)) 0) .l = 1) && decide (cmpValue (FP.dcmp (own_r (Int64.ofNat n)) 4611686018427387904) .g = -1) &&
  !(FP.dIsNaN (FP.dmul (own_r (Int64.ofNat n)) 4652007308841189376)) && !(FP.dIsNaN (FP.dadd (FP.dmul (own_r (Int64.ofNat n)) 4652007308841189376) 4602678819172646912)) &&
  decide (FP.d2l (FP.dadd (FP.dmul (own_r (Int64.ofNat n)) 4652007308841189376) 4602678819172646912) = Int64.ofNat n)
set_option maxRecDepth 100000 in
theorem own_all : (List.range 1000).all (fun i => own_ok (i + 1)) = true := by decide +kernel
theorem own_chk {n : Int64} (h1 : 1 ≤ n.toInt) (h2 : n.toInt ≤ 1000) : cmpValue (FP.dcmp (own_r n) 0) .l = 1 ∧ cmpValue (FP.dcmp (own_r n) 4611686018427387904) .g = -1 ∧ Jvm.Free.Fl.NoNaN64 (FP.dmul (own_r n) 4652007308841189376) ∧
    Jvm.Free.Fl.NoNaN64 (FP.dadd (FP.dmul (own_r n) 4652007308841189376) 4602678819172646912) ∧ FP.d2l (FP.dadd (FP.dmul (own_r n) 4652007308841189376) 4602678819172646912) = n := by
  have hn : n = Int64.ofNat (n.toInt.toNat - 1 + 1) := by
    apply Int64.toInt_inj.mp
    rw [own_toI _ (by omega)]; omega
  have h := List.all_eq_true.mp own_all (n.toInt.toNat - 1) (List.mem_range.mpr (by omega))
  unfold own_ok at h
  rw [← hn] at h
  simp only [Bool.and_eq_true, decide_eq_true_eq, Bool.not_eq_true'] at h
  obtain ⟨⟨⟨⟨a, b⟩, c⟩, d⟩, e⟩ := h
  exact ⟨a, b, Jvm.Free.Fl.noNaN64_no.mpr c, Jvm.Free.Fl.noNaN64_no.mpr d, e⟩
theorem own_cf : Jvm.FP.Core.DFin 4652007308841189376 := (Jvm.FP.Core.fin_bits _).mpr (by decide)
theorem own_cz : ¬ Jvm.FP.Core.DZero 4652007308841189376 := by rw [Jvm.FP.Core.zero_bits2]; decide
theorem own_nn (n : Int64) : Jvm.Free.Fl.NoNaN64 (FP.ddiv (FP.l2d n) 4652007308841189376) := Jvm.Free.Fl.noNaN64_no.mpr (Jvm.FP.Core.ddiv_out (Jvm.FP.Core.l2d_fin n).notNaN own_cf own_cz)
theorem own_rr (n : Int64) : cmpValue (FP.dcmp (own_r n) (FP.ddiv (FP.l2d n) 4652007308841189376)) .l = 0 := dcmpV_self (own_nn n) .l
theorem own_msb {a : Int64} (h : 0 ≤ a.toInt) : a.toBitVec.msb = false := by
  rw [BitVec.msb_eq_toInt]
  exact decide_eq_false (by show ¬ a.toInt < 0; omega)
theorem own_xor {x y r : Int64} (h1 : 0 ≤ x.toInt) (h2 : 0 ≤ y.toInt) (h3 : 0 ≤ r.toInt) : ¬ (((x ^^^ r) &&& (y ^^^ r)) < 0) := by
  have h : ((x ^^^ r) &&& (y ^^^ r)).toBitVec.msb = false := by
    rw [Int64.toBitVec_and, Int64.toBitVec_xor, Int64.toBitVec_xor, BitVec.msb_and, BitVec.msb_xor, BitVec.msb_xor, own_msb h1, own_msb h2, own_msb h3]; rfl
  rw [BitVec.msb_eq_toInt] at h
  rw [Int64.lt_iff_toInt_lt]
  exact of_decide_eq_false h
theorem own_nneg {x : Int64} (h : 0 ≤ x.toInt) : ¬ (x < 0) := by
  rw [Int64.lt_iff_toInt_lt]
  show ¬ x.toInt < 0
  omega
theorem own_muldiv {x y : Int64} (h1 : 0 ≤ x.toInt) (h2 : 0 ≤ y.toInt) (h3 : x.toInt * y.toInt < 9223372036854775808) (hy : ¬ (y = 0)) : (x * y) / y = x := by
  have hy0 : y.toInt ≠ 0 := fun q => hy (Int64.toInt_inj.mp q)
  have hp : 0 ≤ x.toInt * y.toInt := Int.mul_nonneg h1 h2
  apply Int64.toInt_inj.mp
  rw [Jvm.Kit.i64_div (by omega), Jvm.Kit.i64_mul (by omega) (by omega), Int.mul_tdiv_cancel _ hy0]
theorem own_nmin {x : Int64} (h : 0 ≤ x.toInt) : ¬ (x = (-9223372036854775808 : Int64)) := by
  rintro rfl
  exact absurd h (by decide)
abbrev own_num (W A H B : Int64) : Int64 := (500 : Int64) * ((((3 : Int64) * W) * B) + (((2 : Int64) * H) * A))
abbrev own_den (A B : Int64) : Int64 := ((4 : Int64) * A) * B
abbrev own_k (W A H B : Int64) : Int64 := ((own_num W A H B + own_den A B) - (1 : Int64)) / own_den A B
/-- the bounds of the law's four numbers -/
def own_B (W A H B : Int64) : Prop := 0 ≤ W.toInt ∧ W.toInt ≤ A.toInt ∧ 1 ≤ A.toInt ∧ A.toInt ≤ 16777216 ∧ 1 ≤ H.toInt ∧ 2 * H.toInt ≤ B.toInt ∧ B.toInt ≤ 16777217
theorem own_prods {w a h b : Int} (h1 : 0 ≤ w) (h2 : w ≤ a) (h3 : 1 ≤ a) (h4 : a ≤ 16777216) (h5 : 1 ≤ h) (h6 : 2 * h ≤ b) (h7 : b ≤ 16777217) :
    0 ≤ w * b ∧ w * b ≤ a * b ∧ 1 ≤ h * a ∧ 2 * (h * a) ≤ a * b ∧ a * b ≤ 281474993487872 := by
  have p1 : 0 ≤ w * b := Int.mul_nonneg h1 (by omega)
  have p2 : w * b ≤ a * b := Int.mul_le_mul_of_nonneg_right h2 (by omega)
  have p3 : 1 ≤ h * a := Int.mul_pos (by omega) (by omega)
  have p4 : 2 * (h * a) ≤ a * b := by
    have : (2 * h) * a ≤ b * a := Int.mul_le_mul_of_nonneg_right h6 (by omega)
    rw [Int.mul_assoc, Int.mul_comm b a] at this; exact this
  have p5 : a * b ≤ 281474993487872 := by
    have := Int.mul_le_mul h4 h7 (by omega) (by omega)
    omega
  exact ⟨p1, p2, p3, p4, p5⟩
theorem own_lit3 : (3 : Int64).toInt = 3 := by decide
theorem own_lit2 : (2 : Int64).toInt = 2 := by decide
theorem own_lit4 : (4 : Int64).toInt = 4 := by decide
theorem own_lit500 : (500 : Int64).toInt = 500 := by decide
theorem own_lit1 : (1 : Int64).toInt = 1 := by decide
theorem own_parts {W A H B : Int64} (hB : own_B W A H B) : ((3 : Int64) * W).toInt = 3 * W.toInt ∧ (((3 : Int64) * W) * B).toInt = 3 * (W.toInt * B.toInt) ∧ ((2 : Int64) * H).toInt = 2 * H.toInt ∧ (((2 : Int64) * H) * A).toInt = 2 * (H.toInt * A.toInt) ∧
    ((((3 : Int64) * W) * B) + (((2 : Int64) * H) * A)).toInt = 3 * (W.toInt * B.toInt) + 2 * (H.toInt * A.toInt) ∧ (own_num W A H B).toInt = 500 * (3 * (W.toInt * B.toInt) + 2 * (H.toInt * A.toInt)) ∧ ((4 : Int64) * A).toInt = 4 * A.toInt ∧ (own_den A B).toInt = 4 * (A.toInt * B.toInt) := by
  obtain ⟨h1, h2, h3, h4, h5, h6, h7⟩ := hB
  obtain ⟨p1, p2, p3, p4, p5⟩ := own_prods h1 h2 h3 h4 h5 h6 h7
  have e1 : ((3 : Int64) * W).toInt = 3 * W.toInt := by rw [Jvm.Kit.i64_mul (by rw [own_lit3]; omega) (by rw [own_lit3]; omega), own_lit3]
  have e2 : (((3 : Int64) * W) * B).toInt = 3 * (W.toInt * B.toInt) := by rw [Jvm.Kit.i64_mul (by rw [e1, Int.mul_assoc]; omega) (by rw [e1, Int.mul_assoc]; omega), e1, Int.mul_assoc]
  have e3 : ((2 : Int64) * H).toInt = 2 * H.toInt := by rw [Jvm.Kit.i64_mul (by rw [own_lit2]; omega) (by rw [own_lit2]; omega), own_lit2]
  have e4 : (((2 : Int64) * H) * A).toInt = 2 * (H.toInt * A.toInt) := by rw [Jvm.Kit.i64_mul (by rw [e3, Int.mul_assoc]; omega) (by rw [e3, Int.mul_assoc]; omega), e3, Int.mul_assoc]
  have e5 : ((((3 : Int64) * W) * B) + (((2 : Int64) * H) * A)).toInt = 3 * (W.toInt * B.toInt) + 2 * (H.toInt * A.toInt) := by rw [Jvm.Kit.i64_add (by rw [e2, e4]; omega) (by rw [e2, e4]; omega), e2, e4]
  have e6 : (own_num W A H B).toInt = 500 * (3 * (W.toInt * B.toInt) + 2 * (H.toInt * A.toInt)) := by rw [Jvm.Kit.i64_mul (by rw [e5, own_lit500]; omega) (by rw [e5, own_lit500]; omega), e5, own_lit500]
  have e7 : ((4 : Int64) * A).toInt = 4 * A.toInt := by rw [Jvm.Kit.i64_mul (by rw [own_lit4]; omega) (by rw [own_lit4]; omega), own_lit4]
  have e8 : (own_den A B).toInt = 4 * (A.toInt * B.toInt) := by rw [Jvm.Kit.i64_mul (by rw [e7, Int.mul_assoc]; omega) (by rw [e7, Int.mul_assoc]; omega), e7, Int.mul_assoc]
  exact ⟨e1, e2, e3, e4, e5, e6, e7, e8⟩
/-- the bounds that the exact products and sums want -/
theorem own_fits {W A H B : Int64} (hB : own_B W A H B) : (0 ≤ ((3 : Int64) * W).toInt ∧ 0 ≤ B.toInt ∧ ((3 : Int64) * W).toInt * B.toInt < 9223372036854775808) ∧ (0 ≤ ((2 : Int64) * H).toInt ∧ 0 ≤ A.toInt ∧ ((2 : Int64) * H).toInt * A.toInt < 9223372036854775808) ∧
    (0 ≤ (((3 : Int64) * W) * B).toInt ∧ 0 ≤ (((2 : Int64) * H) * A).toInt ∧ (((3 : Int64) * W) * B).toInt + (((2 : Int64) * H) * A).toInt < 9223372036854775808) ∧
    (0 ≤ (500 : Int64).toInt ∧ 0 ≤ ((((3 : Int64) * W) * B) + (((2 : Int64) * H) * A)).toInt ∧ (500 : Int64).toInt * ((((3 : Int64) * W) * B) + (((2 : Int64) * H) * A)).toInt < 9223372036854775808) ∧ (0 ≤ ((4 : Int64) * A).toInt ∧ ((4 : Int64) * A).toInt * B.toInt < 9223372036854775808) := by
  obtain ⟨e1, e2, e3, e4, e5, e6, e7, e8⟩ := own_parts hB
  obtain ⟨h1, h2, h3, h4, h5, h6, h7⟩ := hB
  obtain ⟨p1, p2, p3, p4, p5⟩ := own_prods h1 h2 h3 h4 h5 h6 h7
  rw [e1, e2, e3, e4, e5, e7, own_lit500, Int.mul_assoc 3, Int.mul_assoc 2, Int.mul_assoc 4]
  omega
theorem own_kk {W A H B : Int64} (hB : own_B W A H B) : 1 ≤ (own_k W A H B).toInt ∧ (own_k W A H B).toInt ≤ 500 ∧ ((own_k W A H B).toInt - 1) * (own_den A B).toInt < (own_num W A H B).toInt ∧ (own_num W A H B).toInt ≤ (own_k W A H B).toInt * (own_den A B).toInt ∧
    0 < (own_den A B).toInt ∧ (own_den A B).toInt ≤ 1125899973951488 ∧ own_den A B ≠ 0 := by
  obtain ⟨-, -, -, -, -, e6, -, e8⟩ := own_parts hB
  obtain ⟨h1, h2, h3, h4, h5, h6, h7⟩ := hB
  obtain ⟨p1, p2, p3, p4, p5⟩ := own_prods h1 h2 h3 h4 h5 h6 h7
  have d0 : 0 < (own_den A B).toInt := by rw [e8]; omega
  have d1 : (own_den A B).toInt ≤ 1125899973951488 := by rw [e8]; omega
  have n0 : 1 ≤ (own_num W A H B).toInt := by rw [e6]; omega
  have n1 : (own_num W A H B).toInt ≤ 500 * (own_den A B).toInt := by rw [e6, e8]; omega
  have s1 : (own_num W A H B + own_den A B).toInt = (own_num W A H B).toInt + (own_den A B).toInt := Jvm.Kit.i64_add (by omega) (by omega)
  have s2 : ((own_num W A H B + own_den A B) - (1 : Int64)).toInt = (own_num W A H B).toInt + (own_den A B).toInt - 1 := by rw [Jvm.Kit.i64_sub (by rw [s1, own_lit1]; omega) (by rw [s1, own_lit1]; omega), s1, own_lit1]
  have s3 : (own_k W A H B).toInt = ((own_num W A H B).toInt + (own_den A B).toInt - 1) / (own_den A B).toInt := by
    rw [Jvm.Kit.i64_div (by omega), s2, Int.tdiv_eq_ediv_of_nonneg (by omega)]
  have nz : own_den A B ≠ 0 := fun q => by
    have := congrArg Int64.toInt q
    have z : (0 : Int64).toInt = 0 := by decide
    omega
  generalize (own_k W A H B).toInt = k at *
  generalize (own_num W A H B).toInt = n at *
  generalize (own_den A B).toInt = d at *
  have q1 := Int.mul_ediv_add_emod (n + d - 1) d
  have q2 := Int.emod_nonneg (n + d - 1) (show d ≠ 0 by omega)
  have q3 := Int.emod_lt_of_pos (n + d - 1) d0
  rw [← s3, Int.mul_comm] at q1
  generalize (n + d - 1) % d = r at *
  have k1 : 1 ≤ k := by
    rw [s3]; exact (Int.le_ediv_iff_mul_le d0).mpr (by omega)
  have k2 : k ≤ 500 := by
    have : k < 501 := by rw [s3]; exact (Int.ediv_lt_iff_lt_mul d0).mpr (by omega)
    omega
  refine ⟨k1, k2, ?_, ?_, d0, d1, nz⟩
  · rw [Int.sub_mul]; omega
  · omega
theorem own_A {q1 A : Int64} (eA : A = (q1 &&& (16777215 : Int64)) + (1 : Int64)) : 1 ≤ A.toInt ∧ A.toInt ≤ 16777216 := by
  have m1 : (q1 &&& (16777215 : Int64)).toInt = q1.toInt % 2 ^ 24 := Jvm.Kit.i64_mask q1 16777215 (by decide) (by decide)
  rw [eA, Jvm.Kit.i64_add (by rw [m1, own_lit1]; omega) (by rw [m1, own_lit1]; omega), m1, own_lit1]
  omega
theorem own_Bb {q2 B : Int64} (eB : B = (q2 &&& (16777215 : Int64)) + (2 : Int64)) : 2 ≤ B.toInt ∧ B.toInt ≤ 16777217 ∧ (B / (2 : Int64)).toInt = B.toInt / 2 := by
  have m1 : (q2 &&& (16777215 : Int64)).toInt = q2.toInt % 2 ^ 24 := Jvm.Kit.i64_mask q2 16777215 (by decide) (by decide)
  have e : B.toInt = q2.toInt % 2 ^ 24 + 2 := by rw [eB, Jvm.Kit.i64_add (by rw [m1, own_lit2]; omega) (by rw [m1, own_lit2]; omega), m1, own_lit2]
  refine ⟨by omega, by omega, ?_⟩
  rw [Jvm.Kit.i64_div (by rw [own_lit2]; omega), own_lit2, Int.tdiv_eq_ediv_of_nonneg (by omega)]
theorem own_nzA {q1 A : Int64} (eA : A = (q1 &&& (16777215 : Int64)) + (1 : Int64)) : A + (1 : Int64) ≠ 0 := fun q => by
  obtain ⟨a0, a1⟩ := own_A eA
  have a2 : (A + (1 : Int64)).toInt = A.toInt + 1 := by rw [Jvm.Kit.i64_add (by rw [own_lit1]; omega) (by rw [own_lit1]; omega), own_lit1]
  have := congrArg Int64.toInt q
  have z : (0 : Int64).toInt = 0 := by decide
  omega
theorem own_nzB {q2 B : Int64} (eB : B = (q2 &&& (16777215 : Int64)) + (2 : Int64)) : B / (2 : Int64) ≠ 0 := fun q => by
  obtain ⟨a0, a1, a2⟩ := own_Bb eB
  have := congrArg Int64.toInt q
  have z : (0 : Int64).toInt = 0 := by decide
  omega
theorem own_rng {q1 q2 q3 q4 A B W H : Int64} (eA : A = (q1 &&& (16777215 : Int64)) + (1 : Int64)) (eB : B = (q2 &&& (16777215 : Int64)) + (2 : Int64))
    (eW : W = (q3 &&& (9223372036854775807 : Int64)) - ((q3 &&& (9223372036854775807 : Int64)) / (A + (1 : Int64))) * (A + (1 : Int64)))
    (eH : H = ((q4 &&& (9223372036854775807 : Int64)) - ((q4 &&& (9223372036854775807 : Int64)) / (B / (2 : Int64))) * (B / (2 : Int64))) + (1 : Int64)) : own_B W A H B := by
  obtain ⟨a0, a1⟩ := own_A eA
  obtain ⟨b0, b1, b2⟩ := own_Bb eB
  have m3 : (q3 &&& (9223372036854775807 : Int64)).toInt = q3.toInt % 2 ^ 63 := Jvm.Kit.i64_mask q3 9223372036854775807 (by decide) (by decide)
  have m4 : (q4 &&& (9223372036854775807 : Int64)).toInt = q4.toInt % 2 ^ 63 := Jvm.Kit.i64_mask q4 9223372036854775807 (by decide) (by decide)
  have a2 : (A + (1 : Int64)).toInt = A.toInt + 1 := by rw [Jvm.Kit.i64_add (by rw [own_lit1]; omega) (by rw [own_lit1]; omega), own_lit1]
  have w1 : W.toInt = (q3.toInt % 2 ^ 63) % (A.toInt + 1) := by rw [eW, Jvm.Kit.i64_rem_nonneg (by rw [m3]; omega), m3, a2]
  have w2 := Int.emod_nonneg (q3.toInt % 2 ^ 63) (show A.toInt + 1 ≠ 0 by omega)
  have w3 := Int.emod_lt_of_pos (q3.toInt % 2 ^ 63) (show 0 < A.toInt + 1 by omega)
  have g2 := Int.emod_nonneg (q4.toInt % 2 ^ 63) (show B.toInt / 2 ≠ 0 by omega)
  have g3 := Int.emod_lt_of_pos (q4.toInt % 2 ^ 63) (show 0 < B.toInt / 2 by omega)
  have g1 : ((q4 &&& (9223372036854775807 : Int64)) - ((q4 &&& (9223372036854775807 : Int64)) / (B / (2 : Int64))) * (B / (2 : Int64))).toInt = (q4.toInt % 2 ^ 63) % (B.toInt / 2) := by rw [Jvm.Kit.i64_rem_nonneg (by rw [m4]; omega), m4, b2]
  have g4 : H.toInt = (q4.toInt % 2 ^ 63) % (B.toInt / 2) + 1 := by rw [eH, Jvm.Kit.i64_add (by rw [g1, own_lit1]; omega) (by rw [g1, own_lit1]; omega), g1, own_lit1]
  unfold own_B
  omega
/-- (k - 1) * den < num and num ≤ k * den, as the law reckons them -/
theorem own_end {W A H B : Int64} (hB : own_B W A H B) : (((own_k W A H B) - (1 : Int64)) * own_den A B < own_num W A H B) ∧ ¬ ((own_k W A H B) * own_den A B < own_num W A H B) := by
  obtain ⟨k1, k2, k3, k4, k5, k6, -⟩ := own_kk hB
  obtain ⟨-, -, -, -, -, e6, -, e8⟩ := own_parts hB
  have s1 : ((own_k W A H B) - (1 : Int64)).toInt = (own_k W A H B).toInt - 1 := by rw [Jvm.Kit.i64_sub (by rw [own_lit1]; omega) (by rw [own_lit1]; omega), own_lit1]
  have b1 : ((own_k W A H B).toInt - 1) * (own_den A B).toInt ≤ 500 * 1125899973951488 := Int.mul_le_mul (by omega) k6 (by omega) (by decide)
  have b2 : 0 ≤ ((own_k W A H B).toInt - 1) * (own_den A B).toInt := Int.mul_nonneg (by omega) (by omega)
  have b3 : (own_k W A H B).toInt * (own_den A B).toInt ≤ 500 * 1125899973951488 := Int.mul_le_mul (by omega) k6 (by omega) (by decide)
  have b4 : 0 ≤ (own_k W A H B).toInt * (own_den A B).toInt := Int.mul_nonneg (by omega) (by omega)
  constructor
  · rw [Int64.lt_iff_toInt_lt, Jvm.Kit.i64_mul (by rw [s1]; omega) (by rw [s1]; omega), s1]; exact k3
  · rw [Int64.lt_iff_toInt_lt, Jvm.Kit.i64_mul (by omega) (by omega)]; omega
theorem own_n {W A H B off : Int64} (hB : own_B W A H B) (ho : off.toInt = 0 ∨ off.toInt = 500) : 1 ≤ (off + own_k W A H B).toInt ∧ (off + own_k W A H B).toInt ≤ 1000 ∧ (off + own_k W A H B) - off = own_k W A H B := by
  obtain ⟨k1, k2, -⟩ := own_kk hB
  have e : (off + own_k W A H B).toInt = off.toInt + (own_k W A H B).toInt := Jvm.Kit.i64_add (by omega) (by omega)
  refine ⟨by omega, by omega, ?_⟩
  apply Int64.toInt_inj.mp
  rw [Jvm.Kit.i64_sub (by omega) (by omega), e]; omega
def own_off (z : Int32) : Int64 := if z = 0 then (0 : Int32).toInt64 else (500 : Int32).toInt64
theorem own_off0 {z : Int32} (h : z = 0) : own_off z = (0 : Int32).toInt64 := by unfold own_off; rw [if_pos h]
theorem own_off1 {z : Int32} (h : ¬ (z = 0)) : own_off z = (500 : Int32).toInt64 := by unfold own_off; rw [if_neg h]

theorem d3_0 : decode jdk_29_method_61_code 0 = .ok (.lload_n 0, 1) := by decide +kernel
theorem d3_1 : decode jdk_29_method_61_code 1 = .ok (.lconst 0, 1) := by decide +kernel
theorem d3_2 : decode jdk_29_method_61_code 2 = .ok (.lcmp, 1) := by decide +kernel
theorem d3_3 : decode jdk_29_method_61_code 3 = .ok (.ifCond .ge 8, 3) := by decide +kernel
theorem d3_11 : decode jdk_29_method_61_code 11 = .ok (.lload_n 0, 1) := by decide +kernel
theorem d3_12 : decode jdk_29_method_61_code 12 = .ok (.lreturn, 1) := by decide +kernel
theorem ef_3 (m : MethodId) (x0 : Int64) : entryFrame m #[(.long x0)] 2 = mkF m 0 #[.val (.long x0), .second] [] := by first | (simp [entryFrame, mkF, argsToLocals, Value.category]; done) | rfl
def Q3 (Z : State) (x : Int64) (h0 : Heap) (n0 : Nat) (v : Option Value) (h : Heap) (L : List Loc) : Prop := v = some (.long x) ∧ Fr n0 L ∧ h = h0
set_option maxRecDepth 65536 in
set_option maxHeartbeats 40000000 in
theorem rm3 (l : Launch) (Z : State) (a0 : Array Value) (hw : ∀ d ∈ tables_1, d.before a0 Z = true) (ws : List Jvm.Cond) (x : Int64) (h0 : Heap) (n0 : Nat) (Z0 : n0 ≤ h0.size) (hx0 : ¬ (x < 0)) :
    MetFree l (⟨"java/lang/Math", "abs", "(J)J"⟩ : MethodName) (head1 (Jvm.Cond.code (⟨"java/lang/Math", "abs", "(J)J"⟩ : MethodName) jdk_29_method_61_code 2 (some .long) :: ws) ({ frames := 0, cells := 0, slots := 0, locals := 0 } : Room)) (fun a U => a = #[(.long x)] ∧ Z.Warmed39 U.vm ∧ U.heap = h0) (fun _ _ _ _ _ => True) (fun _ U o U' => ∃ v L, o = .returned v ∧ Q3 Z x h0 n0 v U'.heap L ∧ FrameEnd U o U' L ({ frames := 0, cells := 0, slots := 0, locals := 0 } : Room).cells ({ frames := 0, cells := 0, slots := 0, locals := 0 } : Room).slots) := by
  refine MetFree.of_bodySF (Jvm.Free.JP.mathPlain rfl (by decide +kernel)) hisR ?_
  intro p e s m args below meth c s₁ Bd hml0 hP hK
  obtain ⟨rfl, hZ, hh⟩ := hP
  have hx := Bd.exec
  have hby := Bd.bytes
  have hml : c.maxLocals = 2 := hml0
  have hown : s.vm.findClass "java/lang/Math" = some m.cls := findClass_of_methodNamed Bd.named
  have hnm := (name_of_methodNamed Bd.named Bd.method).1
  have X0 : Stand p l e ({ frames := 0, cells := 0, slots := 0, locals := 0 } : Room) s m #[(.long x)] below meth c s₁ [] 0 0 := Stand.of_body Bd
  have e0 : s₁.heap = h0 := by rw [← hh, Bd.state]; rfl
  have N0 := Fr.nil n0
  show OwnEnds p e below s (Q3 Z x h0 n0) ({ frames := 0, cells := 0, slots := 0, locals := 0 } : Room).cells ({ frames := 0, cells := 0, slots := 0, locals := 0 } : Room).slots (s₁.setTop (entryFrame m #[(.long x)] 2))
  rw [ef_3]
  show OwnEnds _ _ _ _ _ _ _ (s₁.setTop (mkF m 0 #[.val (.long x), .second] []))
  refine OwnEnds.st (fun t k => XS.lloadN X0.here hx rfl (hb hby d3_0) rfl k) ?_
  show OwnEnds _ _ _ _ _ _ _ (s₁.setTop (mkF m 1 #[.val (.long x), .second] [(.long x)]))
  refine OwnEnds.st (fun t k => XS.lconst X0.here hx rfl (hb hby d3_1) k) ?_
  show OwnEnds _ _ _ _ _ _ _ (s₁.setTop (mkF m 2 #[.val (.long x), .second] [(.long (0 : Int64)), (.long x)]))
  refine OwnEnds.st (fun t k => XS.lcmp X0.here hx rfl (hb hby d3_2) rfl k) ?_
  show OwnEnds _ _ _ _ _ _ _ (s₁.setTop (mkF m 3 #[.val (.long x), .second] [(.int (lcmpW x (0 : Int64)))]))
  refine OwnEnds.st (fun t k => XS.ifYes X0.here hx rfl (pc0 := 3) (pc' := 11) rfl (hb hby d3_3) rfl ((if0 _ _).trans (flt (own_lcge hx0 : ¬ ((lcmpW x (0 : Int64)) < (0 : Int32)))).2.1) (by decide) (by decide) k) ?_
  show OwnEnds _ _ _ _ _ _ _ (s₁.setTop (mkF m 11 #[.val (.long x), .second] []))
  refine OwnEnds.st (fun t k => XS.lloadN X0.here hx rfl (hb hby d3_11) rfl k) ?_
  show OwnEnds _ _ _ _ _ _ _ (s₁.setTop (mkF m 12 #[.val (.long x), .second] [(.long x)]))
  refine own_retJ X0 hx Bd.returns Bd.notSynchronized (hb hby d3_12) ?_ (by decide) (by decide)
  show Q3 Z x h0 n0 _ s₁.heap _
  rw [e0]
  exact ⟨rfl, N0, rfl⟩
theorem d2_0 : decode jdk_29_method_30_code 0 = .ok (.lload_n 0, 1) := by decide +kernel
theorem d2_1 : decode jdk_29_method_30_code 1 = .ok (.lload_n 2, 1) := by decide +kernel
theorem d2_2 : decode jdk_29_method_30_code 2 = .ok (.lmul, 1) := by decide +kernel
theorem d2_3 : decode jdk_29_method_30_code 3 = .ok (.lstore 4, 2) := by decide +kernel
theorem d2_5 : decode jdk_29_method_30_code 5 = .ok (.lload_n 0, 1) := by decide +kernel
theorem d2_6 : decode jdk_29_method_30_code 6 = .ok (.invokestatic 122, 3) := by decide +kernel
theorem d2_9 : decode jdk_29_method_30_code 9 = .ok (.lstore 6, 2) := by decide +kernel
theorem d2_11 : decode jdk_29_method_30_code 11 = .ok (.lload_n 2, 1) := by decide +kernel
theorem d2_12 : decode jdk_29_method_30_code 12 = .ok (.invokestatic 122, 3) := by decide +kernel
theorem d2_15 : decode jdk_29_method_30_code 15 = .ok (.lstore 8, 2) := by decide +kernel
theorem d2_17 : decode jdk_29_method_30_code 17 = .ok (.lload 6, 2) := by decide +kernel
theorem d2_19 : decode jdk_29_method_30_code 19 = .ok (.lload 8, 2) := by decide +kernel
theorem d2_21 : decode jdk_29_method_30_code 21 = .ok (.lor, 1) := by decide +kernel
theorem d2_22 : decode jdk_29_method_30_code 22 = .ok (.bipush 31, 2) := by decide +kernel
theorem d2_24 : decode jdk_29_method_30_code 24 = .ok (.lushr, 1) := by decide +kernel
theorem d2_25 : decode jdk_29_method_30_code 25 = .ok (.lconst 0, 1) := by decide +kernel
theorem d2_26 : decode jdk_29_method_30_code 26 = .ok (.lcmp, 1) := by decide +kernel
theorem d2_27 : decode jdk_29_method_30_code 27 = .ok (.ifCond .eq 44, 3) := by decide +kernel
theorem d2_30 : decode jdk_29_method_30_code 30 = .ok (.lload_n 2, 1) := by decide +kernel
theorem d2_31 : decode jdk_29_method_30_code 31 = .ok (.lconst 0, 1) := by decide +kernel
theorem d2_32 : decode jdk_29_method_30_code 32 = .ok (.lcmp, 1) := by decide +kernel
theorem d2_33 : decode jdk_29_method_30_code 33 = .ok (.ifCond .eq 12, 3) := by decide +kernel
theorem d2_36 : decode jdk_29_method_30_code 36 = .ok (.lload 4, 2) := by decide +kernel
theorem d2_38 : decode jdk_29_method_30_code 38 = .ok (.lload_n 2, 1) := by decide +kernel
theorem d2_39 : decode jdk_29_method_30_code 39 = .ok (.ldiv, 1) := by decide +kernel
theorem d2_40 : decode jdk_29_method_30_code 40 = .ok (.lload_n 0, 1) := by decide +kernel
theorem d2_41 : decode jdk_29_method_30_code 41 = .ok (.lcmp, 1) := by decide +kernel
theorem d2_42 : decode jdk_29_method_30_code 42 = .ok (.ifCond .ne 19, 3) := by decide +kernel
theorem d2_45 : decode jdk_29_method_30_code 45 = .ok (.lload_n 0, 1) := by decide +kernel
theorem d2_46 : decode jdk_29_method_30_code 46 = .ok (.ldc2_w 128, 3) := by decide +kernel
theorem d2_49 : decode jdk_29_method_30_code 49 = .ok (.lcmp, 1) := by decide +kernel
theorem d2_50 : decode jdk_29_method_30_code 50 = .ok (.ifCond .ne 21, 3) := by decide +kernel
theorem d2_71 : decode jdk_29_method_30_code 71 = .ok (.lload 4, 2) := by decide +kernel
theorem d2_73 : decode jdk_29_method_30_code 73 = .ok (.lreturn, 1) := by decide +kernel
theorem ef_2 (m : MethodId) (x0 : Int64) (x1 : Int64) : entryFrame m #[(.long x0), (.long x1)] 10 = mkF m 0 #[.val (.long x0), .second, .val (.long x1), .second, .unset, .unset, .unset, .unset, .unset, .unset] [] := by first | (simp [entryFrame, mkF, argsToLocals, Value.category]; done) | rfl
def Q2 (Z : State) (x : Int64) (y : Int64) (h0 : Heap) (n0 : Nat) (v : Option Value) (h : Heap) (L : List Loc) : Prop := v = some (.long (x * y)) ∧ Fr n0 L ∧ h = h0
set_option maxRecDepth 65536 in
set_option maxHeartbeats 40000000 in
theorem rm2 (l : Launch) (Z : State) (a0 : Array Value) (hw : ∀ d ∈ tables_1, d.before a0 Z = true) (ws : List Jvm.Cond) (x : Int64) (y : Int64) (h0 : Heap) (n0 : Nat) (Z0 : n0 ≤ h0.size) (hx0 : 0 ≤ x.toInt) (hy0 : 0 ≤ y.toInt) (hxy : x.toInt * y.toInt < 9223372036854775808) :
    MetFree l (⟨"java/lang/Math", "multiplyExact", "(JJ)J"⟩ : MethodName) (head1 (Jvm.Cond.code (⟨"java/lang/Math", "multiplyExact", "(JJ)J"⟩ : MethodName) jdk_29_method_30_code 10 (some .long) :: ws) ({ frames := 1, cells := 0, slots := 0, locals := 13 } : Room)) (fun a U => a = #[(.long x), (.long y)] ∧ Z.Warmed39 U.vm ∧ U.heap = h0) (fun _ _ _ _ _ => True) (fun _ U o U' => ∃ v L, o = .returned v ∧ Q2 Z x y h0 n0 v U'.heap L ∧ FrameEnd U o U' L ({ frames := 1, cells := 0, slots := 0, locals := 13 } : Room).cells ({ frames := 1, cells := 0, slots := 0, locals := 13 } : Room).slots) := by
  refine MetFree.of_bodySF (Jvm.Free.JP.mathPlain rfl (by decide +kernel)) hisR ?_
  intro p e s m args below meth c s₁ Bd hml0 hP hK
  obtain ⟨rfl, hZ, hh⟩ := hP
  have hx := Bd.exec
  have hby := Bd.bytes
  have hml : c.maxLocals = 10 := hml0
  have hown : s.vm.findClass "java/lang/Math" = some m.cls := findClass_of_methodNamed Bd.named
  have hnm := (name_of_methodNamed Bd.named Bd.method).1
  have X0 : Stand p l e ({ frames := 1, cells := 0, slots := 0, locals := 13 } : Room) s m #[(.long x), (.long y)] below meth c s₁ [] 0 0 := Stand.of_body Bd
  have e0 : s₁.heap = h0 := by rw [← hh, Bd.state]; rfl
  have N0 := Fr.nil n0
  show OwnEnds p e below s (Q2 Z x y h0 n0) ({ frames := 1, cells := 0, slots := 0, locals := 13 } : Room).cells ({ frames := 1, cells := 0, slots := 0, locals := 13 } : Room).slots (s₁.setTop (entryFrame m #[(.long x), (.long y)] 10))
  rw [ef_2]
  show OwnEnds _ _ _ _ _ _ _ (s₁.setTop (mkF m 0 #[.val (.long x), .second, .val (.long y), .second, .unset, .unset, .unset, .unset, .unset, .unset] []))
  refine OwnEnds.st (fun t k => XS.lloadN X0.here hx rfl (hb hby d2_0) rfl k) ?_
  show OwnEnds _ _ _ _ _ _ _ (s₁.setTop (mkF m 1 #[.val (.long x), .second, .val (.long y), .second, .unset, .unset, .unset, .unset, .unset, .unset] [(.long x)]))
  refine OwnEnds.st (fun t k => XS.lloadN X0.here hx rfl (hb hby d2_1) rfl k) ?_
  show OwnEnds _ _ _ _ _ _ _ (s₁.setTop (mkF m 2 #[.val (.long x), .second, .val (.long y), .second, .unset, .unset, .unset, .unset, .unset, .unset] [(.long y), (.long x)]))
  refine OwnEnds.st (fun t k => XS.lmul X0.here hx rfl (hb hby d2_2) rfl k) ?_
  show OwnEnds _ _ _ _ _ _ _ (s₁.setTop (mkF m 3 #[.val (.long x), .second, .val (.long y), .second, .unset, .unset, .unset, .unset, .unset, .unset] [(.long (x * y))]))
  refine OwnEnds.st (fun t k => XS.lstore X0.here hx rfl (hb hby d2_3) rfl (l' := #[.val (.long x), .second, .val (.long y), .second, .val (.long (x * y)), .second, .unset, .unset, .unset, .unset]) rfl k) ?_
  show OwnEnds _ _ _ _ _ _ _ (s₁.setTop (mkF m 5 #[.val (.long x), .second, .val (.long y), .second, .val (.long (x * y)), .second, .unset, .unset, .unset, .unset] []))
  refine OwnEnds.st (fun t k => XS.lloadN X0.here hx rfl (hb hby d2_5) rfl k) ?_
  show OwnEnds _ _ _ _ _ _ _ (s₁.setTop (mkF m 6 #[.val (.long x), .second, .val (.long y), .second, .val (.long (x * y)), .second, .unset, .unset, .unset, .unset] [(.long x)]))
  obtain ⟨_, _, ⟨T1, L1, k1, n1⟩, -, X1, ⟨Lc1, hQ1, l1, y1, z1⟩, st1⟩ := Jvm.LawKit.callS X0 hx (y := (⟨"java/lang/Math", "abs", "(J)J"⟩ : MethodName)) hown (mvT hZ (hw _ (List.mem_of_getElem? (i := 13) rfl))) (mvT hZ (hw _ (List.mem_of_getElem? (i := 14) rfl))) (mvT hZ (hw _ (List.mem_of_getElem? (i := 11) rfl))) (mvT hZ (hw _ (List.mem_of_getElem? (i := 15) rfl))) (by decide) (backOf (W := 0) (rm3 l Z a0 hw [] x h0 n0 Z0 (own_nneg hx0)) hZ (hw _ (List.mem_of_getElem? (i := 15) rfl)) (hw _ (List.mem_of_getElem? (i := 11) rfl)) (by decide) (by decide)) (g := (mkF m 6 #[.val (.long x), .second, .val (.long y), .second, .val (.long (x * y)), .second, .unset, .unset, .unset, .unset] [(.long x)])) rfl (by rw [hml]; rfl) (argsL := [(.long x)]) (rest := []) (lenOf pd_0 rfl) rfl (by show 2 * 0 + _ ≤ _; exact Nat.le_of_eq rfl) (hb hby d2_6) (fun _ _ => ⟨rfl, e0, (by decide : 0 + 0 ≤ _), (by decide : 0 + 0 ≤ _)⟩)
  dsimp only [Pt.U, Pt.locs, Pt.cells, Pt.slots] at X1 l1 y1 z1 st1 hQ1
  subst l1 y1 z1
  obtain ⟨rfl, N1q, hh1⟩ := hQ1
  have N1 := Fr.app N0 N1q
  refine OwnEnds.st st1 ?_
  show OwnEnds _ _ _ _ _ _ _ (T1.setTop (mkF m 9 #[.val (.long x), .second, .val (.long y), .second, .val (.long (x * y)), .second, .unset, .unset, .unset, .unset] [(.long x)]))
  refine OwnEnds.st (fun t k => XS.lstore X1.here hx rfl (hb hby d2_9) rfl (l' := #[.val (.long x), .second, .val (.long y), .second, .val (.long (x * y)), .second, .val (.long x), .second, .unset, .unset]) rfl k) ?_
  show OwnEnds _ _ _ _ _ _ _ (T1.setTop (mkF m 11 #[.val (.long x), .second, .val (.long y), .second, .val (.long (x * y)), .second, .val (.long x), .second, .unset, .unset] []))
  refine OwnEnds.st (fun t k => XS.lloadN X1.here hx rfl (hb hby d2_11) rfl k) ?_
  show OwnEnds _ _ _ _ _ _ _ (T1.setTop (mkF m 12 #[.val (.long x), .second, .val (.long y), .second, .val (.long (x * y)), .second, .val (.long x), .second, .unset, .unset] [(.long y)]))
  obtain ⟨_, _, ⟨T2, L2, k2, n2⟩, -, X2, ⟨Lc2, hQ2, l2, y2, z2⟩, st2⟩ := Jvm.LawKit.callS X1 hx (y := (⟨"java/lang/Math", "abs", "(J)J"⟩ : MethodName)) hown (mvT hZ (hw _ (List.mem_of_getElem? (i := 13) rfl))) (mvT hZ (hw _ (List.mem_of_getElem? (i := 14) rfl))) (mvT hZ (hw _ (List.mem_of_getElem? (i := 11) rfl))) (mvT hZ (hw _ (List.mem_of_getElem? (i := 15) rfl))) (by decide) (backOf (W := 0) (rm3 l Z a0 hw [] y h0 n0 Z0 (own_nneg hy0)) hZ (hw _ (List.mem_of_getElem? (i := 15) rfl)) (hw _ (List.mem_of_getElem? (i := 11) rfl)) (by decide) (by decide)) (g := (mkF m 12 #[.val (.long x), .second, .val (.long y), .second, .val (.long (x * y)), .second, .val (.long x), .second, .unset, .unset] [(.long y)])) rfl (by rw [hml]; rfl) (argsL := [(.long y)]) (rest := []) (lenOf pd_0 rfl) rfl (by show 2 * 0 + _ ≤ _; exact Nat.le_of_eq rfl) (hb hby d2_12) (fun _ _ => ⟨rfl, hh1, (by decide : 0 + 0 ≤ _), (by decide : 0 + 0 ≤ _)⟩)
  dsimp only [Pt.U, Pt.locs, Pt.cells, Pt.slots] at X2 l2 y2 z2 st2 hQ2
  subst l2 y2 z2
  obtain ⟨rfl, N2q, hh2⟩ := hQ2
  have N2 := Fr.app N1 N2q
  refine OwnEnds.st st2 ?_
  show OwnEnds _ _ _ _ _ _ _ (T2.setTop (mkF m 15 #[.val (.long x), .second, .val (.long y), .second, .val (.long (x * y)), .second, .val (.long x), .second, .unset, .unset] [(.long y)]))
  refine OwnEnds.st (fun t k => XS.lstore X2.here hx rfl (hb hby d2_15) rfl (l' := #[.val (.long x), .second, .val (.long y), .second, .val (.long (x * y)), .second, .val (.long x), .second, .val (.long y), .second]) rfl k) ?_
  show OwnEnds _ _ _ _ _ _ _ (T2.setTop (mkF m 17 #[.val (.long x), .second, .val (.long y), .second, .val (.long (x * y)), .second, .val (.long x), .second, .val (.long y), .second] []))
  refine OwnEnds.st (fun t k => XS.lload X2.here hx rfl (hb hby d2_17) rfl k) ?_
  show OwnEnds _ _ _ _ _ _ _ (T2.setTop (mkF m 19 #[.val (.long x), .second, .val (.long y), .second, .val (.long (x * y)), .second, .val (.long x), .second, .val (.long y), .second] [(.long x)]))
  refine OwnEnds.st (fun t k => XS.lload X2.here hx rfl (hb hby d2_19) rfl k) ?_
  show OwnEnds _ _ _ _ _ _ _ (T2.setTop (mkF m 21 #[.val (.long x), .second, .val (.long y), .second, .val (.long (x * y)), .second, .val (.long x), .second, .val (.long y), .second] [(.long y), (.long x)]))
  refine OwnEnds.st (fun t k => XS.lor X2.here hx rfl (hb hby d2_21) rfl k) ?_
  show OwnEnds _ _ _ _ _ _ _ (T2.setTop (mkF m 22 #[.val (.long x), .second, .val (.long y), .second, .val (.long (x * y)), .second, .val (.long x), .second, .val (.long y), .second] [(.long (x ||| y))]))
  refine OwnEnds.st (fun t k => XS.bipush X2.here hx rfl (hb hby d2_22) k) ?_
  show OwnEnds _ _ _ _ _ _ _ (T2.setTop (mkF m 24 #[.val (.long x), .second, .val (.long y), .second, .val (.long (x * y)), .second, .val (.long x), .second, .val (.long y), .second] [(.int (31 : Int32)), (.long (x ||| y))]))
  refine OwnEnds.st (fun t k => XS.lushr X2.here hx rfl (hb hby d2_24) rfl k) ?_
  show OwnEnds _ _ _ _ _ _ _ (T2.setTop (mkF m 25 #[.val (.long x), .second, .val (.long y), .second, .val (.long (x * y)), .second, .val (.long x), .second, .val (.long y), .second] [(.long (((x ||| y).toUInt64 >>> ((31 : Int32) &&& 0x3f).toInt64.toUInt64).toInt64))]))
  refine OwnEnds.st (fun t k => XS.lconst X2.here hx rfl (hb hby d2_25) k) ?_
  show OwnEnds _ _ _ _ _ _ _ (T2.setTop (mkF m 26 #[.val (.long x), .second, .val (.long y), .second, .val (.long (x * y)), .second, .val (.long x), .second, .val (.long y), .second] [(.long (0 : Int64)), (.long (((x ||| y).toUInt64 >>> ((31 : Int32) &&& 0x3f).toInt64.toUInt64).toInt64))]))
  refine OwnEnds.st (fun t k => XS.lcmp X2.here hx rfl (hb hby d2_26) rfl k) ?_
  show OwnEnds _ _ _ _ _ _ _ (T2.setTop (mkF m 27 #[.val (.long x), .second, .val (.long y), .second, .val (.long (x * y)), .second, .val (.long x), .second, .val (.long y), .second] [(.int (lcmpW (((x ||| y).toUInt64 >>> ((31 : Int32) &&& 0x3f).toInt64.toUInt64).toInt64) (0 : Int64)))]))
  by_cases hbig : (((x ||| y).toUInt64 >>> ((31 : Int32) &&& 0x3f).toInt64.toUInt64).toInt64) = 0
  · refine OwnEnds.st (fun t k => XS.ifYes X2.here hx rfl (pc0 := 27) (pc' := 71) rfl (hb hby d2_27) rfl ((if0 _ _).trans (teq (own_lc0 hbig : (lcmpW (((x ||| y).toUInt64 >>> ((31 : Int32) &&& 0x3f).toInt64.toUInt64).toInt64) (0 : Int64)) = (0 : Int32))).1) (by decide) (by decide) k) ?_
    show OwnEnds _ _ _ _ _ _ _ (T2.setTop (mkF m 71 #[.val (.long x), .second, .val (.long y), .second, .val (.long (x * y)), .second, .val (.long x), .second, .val (.long y), .second] []))
    refine OwnEnds.st (fun t k => XS.lload X2.here hx rfl (hb hby d2_71) rfl k) ?_
    show OwnEnds _ _ _ _ _ _ _ (T2.setTop (mkF m 73 #[.val (.long x), .second, .val (.long y), .second, .val (.long (x * y)), .second, .val (.long x), .second, .val (.long y), .second] [(.long (x * y))]))
    refine own_retJ X2 hx Bd.returns Bd.notSynchronized (hb hby d2_73) ?_ (by decide) (by decide)
    show Q2 Z x y h0 n0 _ T2.heap _
    rw [hh2]
    exact ⟨rfl, N2, rfl⟩
  · refine OwnEnds.st (fun t k => XS.ifNo X2.here hx rfl (hb hby d2_27) rfl ((if0 _ _).trans (feq (own_lc1 hbig : ¬ ((lcmpW (((x ||| y).toUInt64 >>> ((31 : Int32) &&& 0x3f).toInt64.toUInt64).toInt64) (0 : Int64)) = (0 : Int32)))).1) k) ?_
    show OwnEnds _ _ _ _ _ _ _ (T2.setTop (mkF m 30 #[.val (.long x), .second, .val (.long y), .second, .val (.long (x * y)), .second, .val (.long x), .second, .val (.long y), .second] []))
    refine OwnEnds.st (fun t k => XS.lloadN X2.here hx rfl (hb hby d2_30) rfl k) ?_
    show OwnEnds _ _ _ _ _ _ _ (T2.setTop (mkF m 31 #[.val (.long x), .second, .val (.long y), .second, .val (.long (x * y)), .second, .val (.long x), .second, .val (.long y), .second] [(.long y)]))
    refine OwnEnds.st (fun t k => XS.lconst X2.here hx rfl (hb hby d2_31) k) ?_
    show OwnEnds _ _ _ _ _ _ _ (T2.setTop (mkF m 32 #[.val (.long x), .second, .val (.long y), .second, .val (.long (x * y)), .second, .val (.long x), .second, .val (.long y), .second] [(.long (0 : Int64)), (.long y)]))
    refine OwnEnds.st (fun t k => XS.lcmp X2.here hx rfl (hb hby d2_32) rfl k) ?_
    show OwnEnds _ _ _ _ _ _ _ (T2.setTop (mkF m 33 #[.val (.long x), .second, .val (.long y), .second, .val (.long (x * y)), .second, .val (.long x), .second, .val (.long y), .second] [(.int (lcmpW y (0 : Int64)))]))
    by_cases hy : y = 0
    · refine OwnEnds.st (fun t k => XS.ifYes X2.here hx rfl (pc0 := 33) (pc' := 45) rfl (hb hby d2_33) rfl ((if0 _ _).trans (teq (own_lc0 hy : (lcmpW y (0 : Int64)) = (0 : Int32))).1) (by decide) (by decide) k) ?_
      show OwnEnds _ _ _ _ _ _ _ (T2.setTop (mkF m 45 #[.val (.long x), .second, .val (.long y), .second, .val (.long (x * y)), .second, .val (.long x), .second, .val (.long y), .second] []))
      refine OwnEnds.st (fun t k => XS.lloadN X2.here hx rfl (hb hby d2_45) rfl k) ?_
      show OwnEnds _ _ _ _ _ _ _ (T2.setTop (mkF m 46 #[.val (.long x), .second, .val (.long y), .second, .val (.long (x * y)), .second, .val (.long x), .second, .val (.long y), .second] [(.long x)]))
      refine OwnEnds.st (fun t k => X2.ldc2Long hx hown (mvT hZ (hw _ (List.mem_of_getElem? (i := 28) rfl))) (g := (mkF m 46 #[.val (.long x), .second, .val (.long y), .second, .val (.long (x * y)), .second, .val (.long x), .second, .val (.long y), .second] [(.long x)])) rfl (hb hby d2_46) t k) ?_
      show OwnEnds _ _ _ _ _ _ _ (T2.setTop (mkF m 49 #[.val (.long x), .second, .val (.long y), .second, .val (.long (x * y)), .second, .val (.long x), .second, .val (.long y), .second] [(.long (-9223372036854775808 : Int64)), (.long x)]))
      refine OwnEnds.st (fun t k => XS.lcmp X2.here hx rfl (hb hby d2_49) rfl k) ?_
      show OwnEnds _ _ _ _ _ _ _ (T2.setTop (mkF m 50 #[.val (.long x), .second, .val (.long y), .second, .val (.long (x * y)), .second, .val (.long x), .second, .val (.long y), .second] [(.int (lcmpW x (-9223372036854775808 : Int64)))]))
      refine OwnEnds.st (fun t k => XS.ifYes X2.here hx rfl (pc0 := 50) (pc' := 71) rfl (hb hby d2_50) rfl ((if0 _ _).trans (feq (own_lc1 (own_nmin hx0) : ¬ ((lcmpW x (-9223372036854775808 : Int64)) = (0 : Int32)))).2) (by decide) (by decide) k) ?_
      show OwnEnds _ _ _ _ _ _ _ (T2.setTop (mkF m 71 #[.val (.long x), .second, .val (.long y), .second, .val (.long (x * y)), .second, .val (.long x), .second, .val (.long y), .second] []))
      refine OwnEnds.st (fun t k => XS.lload X2.here hx rfl (hb hby d2_71) rfl k) ?_
      show OwnEnds _ _ _ _ _ _ _ (T2.setTop (mkF m 73 #[.val (.long x), .second, .val (.long y), .second, .val (.long (x * y)), .second, .val (.long x), .second, .val (.long y), .second] [(.long (x * y))]))
      refine own_retJ X2 hx Bd.returns Bd.notSynchronized (hb hby d2_73) ?_ (by decide) (by decide)
      show Q2 Z x y h0 n0 _ T2.heap _
      rw [hh2]
      exact ⟨rfl, N2, rfl⟩
    · refine OwnEnds.st (fun t k => XS.ifNo X2.here hx rfl (hb hby d2_33) rfl ((if0 _ _).trans (feq (own_lc1 hy : ¬ ((lcmpW y (0 : Int64)) = (0 : Int32)))).1) k) ?_
      show OwnEnds _ _ _ _ _ _ _ (T2.setTop (mkF m 36 #[.val (.long x), .second, .val (.long y), .second, .val (.long (x * y)), .second, .val (.long x), .second, .val (.long y), .second] []))
      refine OwnEnds.st (fun t k => XS.lload X2.here hx rfl (hb hby d2_36) rfl k) ?_
      show OwnEnds _ _ _ _ _ _ _ (T2.setTop (mkF m 38 #[.val (.long x), .second, .val (.long y), .second, .val (.long (x * y)), .second, .val (.long x), .second, .val (.long y), .second] [(.long (x * y))]))
      refine OwnEnds.st (fun t k => XS.lloadN X2.here hx rfl (hb hby d2_38) rfl k) ?_
      show OwnEnds _ _ _ _ _ _ _ (T2.setTop (mkF m 39 #[.val (.long x), .second, .val (.long y), .second, .val (.long (x * y)), .second, .val (.long x), .second, .val (.long y), .second] [(.long y), (.long (x * y))]))
      refine OwnEnds.st (fun t k => XS.ldiv X2.here hx rfl (hb hby d2_39) rfl hy k) ?_
      show OwnEnds _ _ _ _ _ _ _ (T2.setTop (mkF m 40 #[.val (.long x), .second, .val (.long y), .second, .val (.long (x * y)), .second, .val (.long x), .second, .val (.long y), .second] [(.long ((x * y) / y))]))
      refine OwnEnds.st (fun t k => XS.lloadN X2.here hx rfl (hb hby d2_40) rfl k) ?_
      show OwnEnds _ _ _ _ _ _ _ (T2.setTop (mkF m 41 #[.val (.long x), .second, .val (.long y), .second, .val (.long (x * y)), .second, .val (.long x), .second, .val (.long y), .second] [(.long x), (.long ((x * y) / y))]))
      refine OwnEnds.st (fun t k => XS.lcmp X2.here hx rfl (hb hby d2_41) rfl k) ?_
      show OwnEnds _ _ _ _ _ _ _ (T2.setTop (mkF m 42 #[.val (.long x), .second, .val (.long y), .second, .val (.long (x * y)), .second, .val (.long x), .second, .val (.long y), .second] [(.int (lcmpW ((x * y) / y) x))]))
      refine OwnEnds.st (fun t k => XS.ifNo X2.here hx rfl (hb hby d2_42) rfl ((if0 _ _).trans (teq (own_lc0 (own_muldiv hx0 hy0 hxy hy) : (lcmpW ((x * y) / y) x) = (0 : Int32))).2) k) ?_
      show OwnEnds _ _ _ _ _ _ _ (T2.setTop (mkF m 45 #[.val (.long x), .second, .val (.long y), .second, .val (.long (x * y)), .second, .val (.long x), .second, .val (.long y), .second] []))
      refine OwnEnds.st (fun t k => XS.lloadN X2.here hx rfl (hb hby d2_45) rfl k) ?_
      show OwnEnds _ _ _ _ _ _ _ (T2.setTop (mkF m 46 #[.val (.long x), .second, .val (.long y), .second, .val (.long (x * y)), .second, .val (.long x), .second, .val (.long y), .second] [(.long x)]))
      refine OwnEnds.st (fun t k => X2.ldc2Long hx hown (mvT hZ (hw _ (List.mem_of_getElem? (i := 28) rfl))) (g := (mkF m 46 #[.val (.long x), .second, .val (.long y), .second, .val (.long (x * y)), .second, .val (.long x), .second, .val (.long y), .second] [(.long x)])) rfl (hb hby d2_46) t k) ?_
      show OwnEnds _ _ _ _ _ _ _ (T2.setTop (mkF m 49 #[.val (.long x), .second, .val (.long y), .second, .val (.long (x * y)), .second, .val (.long x), .second, .val (.long y), .second] [(.long (-9223372036854775808 : Int64)), (.long x)]))
      refine OwnEnds.st (fun t k => XS.lcmp X2.here hx rfl (hb hby d2_49) rfl k) ?_
      show OwnEnds _ _ _ _ _ _ _ (T2.setTop (mkF m 50 #[.val (.long x), .second, .val (.long y), .second, .val (.long (x * y)), .second, .val (.long x), .second, .val (.long y), .second] [(.int (lcmpW x (-9223372036854775808 : Int64)))]))
      refine OwnEnds.st (fun t k => XS.ifYes X2.here hx rfl (pc0 := 50) (pc' := 71) rfl (hb hby d2_50) rfl ((if0 _ _).trans (feq (own_lc1 (own_nmin hx0) : ¬ ((lcmpW x (-9223372036854775808 : Int64)) = (0 : Int32)))).2) (by decide) (by decide) k) ?_
      show OwnEnds _ _ _ _ _ _ _ (T2.setTop (mkF m 71 #[.val (.long x), .second, .val (.long y), .second, .val (.long (x * y)), .second, .val (.long x), .second, .val (.long y), .second] []))
      refine OwnEnds.st (fun t k => XS.lload X2.here hx rfl (hb hby d2_71) rfl k) ?_
      show OwnEnds _ _ _ _ _ _ _ (T2.setTop (mkF m 73 #[.val (.long x), .second, .val (.long y), .second, .val (.long (x * y)), .second, .val (.long x), .second, .val (.long y), .second] [(.long (x * y))]))
      refine own_retJ X2 hx Bd.returns Bd.notSynchronized (hb hby d2_73) ?_ (by decide) (by decide)
      show Q2 Z x y h0 n0 _ T2.heap _
      rw [hh2]
      exact ⟨rfl, N2, rfl⟩
theorem d4_0 : decode jdk_29_method_25_code 0 = .ok (.lload_n 0, 1) := by decide +kernel
theorem d4_1 : decode jdk_29_method_25_code 1 = .ok (.lload_n 2, 1) := by decide +kernel
theorem d4_2 : decode jdk_29_method_25_code 2 = .ok (.ladd, 1) := by decide +kernel
theorem d4_3 : decode jdk_29_method_25_code 3 = .ok (.lstore 4, 2) := by decide +kernel
theorem d4_5 : decode jdk_29_method_25_code 5 = .ok (.lload_n 0, 1) := by decide +kernel
theorem d4_6 : decode jdk_29_method_25_code 6 = .ok (.lload 4, 2) := by decide +kernel
theorem d4_8 : decode jdk_29_method_25_code 8 = .ok (.lxor, 1) := by decide +kernel
theorem d4_9 : decode jdk_29_method_25_code 9 = .ok (.lload_n 2, 1) := by decide +kernel
theorem d4_10 : decode jdk_29_method_25_code 10 = .ok (.lload 4, 2) := by decide +kernel
theorem d4_12 : decode jdk_29_method_25_code 12 = .ok (.lxor, 1) := by decide +kernel
theorem d4_13 : decode jdk_29_method_25_code 13 = .ok (.land, 1) := by decide +kernel
theorem d4_14 : decode jdk_29_method_25_code 14 = .ok (.lconst 0, 1) := by decide +kernel
theorem d4_15 : decode jdk_29_method_25_code 15 = .ok (.lcmp, 1) := by decide +kernel
theorem d4_16 : decode jdk_29_method_25_code 16 = .ok (.ifCond .ge 13, 3) := by decide +kernel
theorem d4_29 : decode jdk_29_method_25_code 29 = .ok (.lload 4, 2) := by decide +kernel
theorem d4_31 : decode jdk_29_method_25_code 31 = .ok (.lreturn, 1) := by decide +kernel
theorem ef_4 (m : MethodId) (x0 : Int64) (x1 : Int64) : entryFrame m #[(.long x0), (.long x1)] 6 = mkF m 0 #[.val (.long x0), .second, .val (.long x1), .second, .unset, .unset] [] := by first | (simp [entryFrame, mkF, argsToLocals, Value.category]; done) | rfl
def Q4 (Z : State) (x : Int64) (y : Int64) (h0 : Heap) (n0 : Nat) (v : Option Value) (h : Heap) (L : List Loc) : Prop := v = some (.long (x + y)) ∧ Fr n0 L ∧ h = h0
set_option maxRecDepth 65536 in
set_option maxHeartbeats 40000000 in
theorem rm4 (l : Launch) (Z : State) (a0 : Array Value) (hw : ∀ d ∈ tables_1, d.before a0 Z = true) (ws : List Jvm.Cond) (x : Int64) (y : Int64) (h0 : Heap) (n0 : Nat) (Z0 : n0 ≤ h0.size) (hx0 : 0 ≤ x.toInt) (hy0 : 0 ≤ y.toInt) (hxy : x.toInt + y.toInt < 9223372036854775808) :
    MetFree l (⟨"java/lang/Math", "addExact", "(JJ)J"⟩ : MethodName) (head1 (Jvm.Cond.code (⟨"java/lang/Math", "addExact", "(JJ)J"⟩ : MethodName) jdk_29_method_25_code 6 (some .long) :: ws) ({ frames := 0, cells := 0, slots := 0, locals := 0 } : Room)) (fun a U => a = #[(.long x), (.long y)] ∧ Z.Warmed39 U.vm ∧ U.heap = h0) (fun _ _ _ _ _ => True) (fun _ U o U' => ∃ v L, o = .returned v ∧ Q4 Z x y h0 n0 v U'.heap L ∧ FrameEnd U o U' L ({ frames := 0, cells := 0, slots := 0, locals := 0 } : Room).cells ({ frames := 0, cells := 0, slots := 0, locals := 0 } : Room).slots) := by
  refine MetFree.of_bodySF (Jvm.Free.JP.mathPlain rfl (by decide +kernel)) hisR ?_
  intro p e s m args below meth c s₁ Bd hml0 hP hK
  obtain ⟨rfl, hZ, hh⟩ := hP
  have hx := Bd.exec
  have hby := Bd.bytes
  have hml : c.maxLocals = 6 := hml0
  have hown : s.vm.findClass "java/lang/Math" = some m.cls := findClass_of_methodNamed Bd.named
  have hnm := (name_of_methodNamed Bd.named Bd.method).1
  have X0 : Stand p l e ({ frames := 0, cells := 0, slots := 0, locals := 0 } : Room) s m #[(.long x), (.long y)] below meth c s₁ [] 0 0 := Stand.of_body Bd
  have e0 : s₁.heap = h0 := by rw [← hh, Bd.state]; rfl
  have N0 := Fr.nil n0
  show OwnEnds p e below s (Q4 Z x y h0 n0) ({ frames := 0, cells := 0, slots := 0, locals := 0 } : Room).cells ({ frames := 0, cells := 0, slots := 0, locals := 0 } : Room).slots (s₁.setTop (entryFrame m #[(.long x), (.long y)] 6))
  rw [ef_4]
  show OwnEnds _ _ _ _ _ _ _ (s₁.setTop (mkF m 0 #[.val (.long x), .second, .val (.long y), .second, .unset, .unset] []))
  refine OwnEnds.st (fun t k => XS.lloadN X0.here hx rfl (hb hby d4_0) rfl k) ?_
  show OwnEnds _ _ _ _ _ _ _ (s₁.setTop (mkF m 1 #[.val (.long x), .second, .val (.long y), .second, .unset, .unset] [(.long x)]))
  refine OwnEnds.st (fun t k => XS.lloadN X0.here hx rfl (hb hby d4_1) rfl k) ?_
  show OwnEnds _ _ _ _ _ _ _ (s₁.setTop (mkF m 2 #[.val (.long x), .second, .val (.long y), .second, .unset, .unset] [(.long y), (.long x)]))
  refine OwnEnds.st (fun t k => XS.ladd X0.here hx rfl (hb hby d4_2) rfl k) ?_
  show OwnEnds _ _ _ _ _ _ _ (s₁.setTop (mkF m 3 #[.val (.long x), .second, .val (.long y), .second, .unset, .unset] [(.long (x + y))]))
  refine OwnEnds.st (fun t k => XS.lstore X0.here hx rfl (hb hby d4_3) rfl (l' := #[.val (.long x), .second, .val (.long y), .second, .val (.long (x + y)), .second]) rfl k) ?_
  show OwnEnds _ _ _ _ _ _ _ (s₁.setTop (mkF m 5 #[.val (.long x), .second, .val (.long y), .second, .val (.long (x + y)), .second] []))
  refine OwnEnds.st (fun t k => XS.lloadN X0.here hx rfl (hb hby d4_5) rfl k) ?_
  show OwnEnds _ _ _ _ _ _ _ (s₁.setTop (mkF m 6 #[.val (.long x), .second, .val (.long y), .second, .val (.long (x + y)), .second] [(.long x)]))
  refine OwnEnds.st (fun t k => XS.lload X0.here hx rfl (hb hby d4_6) rfl k) ?_
  show OwnEnds _ _ _ _ _ _ _ (s₁.setTop (mkF m 8 #[.val (.long x), .second, .val (.long y), .second, .val (.long (x + y)), .second] [(.long (x + y)), (.long x)]))
  refine OwnEnds.st (fun t k => XS.lxor X0.here hx rfl (hb hby d4_8) rfl k) ?_
  show OwnEnds _ _ _ _ _ _ _ (s₁.setTop (mkF m 9 #[.val (.long x), .second, .val (.long y), .second, .val (.long (x + y)), .second] [(.long (x ^^^ (x + y)))]))
  refine OwnEnds.st (fun t k => XS.lloadN X0.here hx rfl (hb hby d4_9) rfl k) ?_
  show OwnEnds _ _ _ _ _ _ _ (s₁.setTop (mkF m 10 #[.val (.long x), .second, .val (.long y), .second, .val (.long (x + y)), .second] [(.long y), (.long (x ^^^ (x + y)))]))
  refine OwnEnds.st (fun t k => XS.lload X0.here hx rfl (hb hby d4_10) rfl k) ?_
  show OwnEnds _ _ _ _ _ _ _ (s₁.setTop (mkF m 12 #[.val (.long x), .second, .val (.long y), .second, .val (.long (x + y)), .second] [(.long (x + y)), (.long y), (.long (x ^^^ (x + y)))]))
  refine OwnEnds.st (fun t k => XS.lxor X0.here hx rfl (hb hby d4_12) rfl k) ?_
  show OwnEnds _ _ _ _ _ _ _ (s₁.setTop (mkF m 13 #[.val (.long x), .second, .val (.long y), .second, .val (.long (x + y)), .second] [(.long (y ^^^ (x + y))), (.long (x ^^^ (x + y)))]))
  refine OwnEnds.st (fun t k => XS.land X0.here hx rfl (hb hby d4_13) rfl k) ?_
  show OwnEnds _ _ _ _ _ _ _ (s₁.setTop (mkF m 14 #[.val (.long x), .second, .val (.long y), .second, .val (.long (x + y)), .second] [(.long ((x ^^^ (x + y)) &&& (y ^^^ (x + y))))]))
  refine OwnEnds.st (fun t k => XS.lconst X0.here hx rfl (hb hby d4_14) k) ?_
  show OwnEnds _ _ _ _ _ _ _ (s₁.setTop (mkF m 15 #[.val (.long x), .second, .val (.long y), .second, .val (.long (x + y)), .second] [(.long (0 : Int64)), (.long ((x ^^^ (x + y)) &&& (y ^^^ (x + y))))]))
  refine OwnEnds.st (fun t k => XS.lcmp X0.here hx rfl (hb hby d4_15) rfl k) ?_
  show OwnEnds _ _ _ _ _ _ _ (s₁.setTop (mkF m 16 #[.val (.long x), .second, .val (.long y), .second, .val (.long (x + y)), .second] [(.int (lcmpW ((x ^^^ (x + y)) &&& (y ^^^ (x + y))) (0 : Int64)))]))
  refine OwnEnds.st (fun t k => XS.ifYes X0.here hx rfl (pc0 := 16) (pc' := 29) rfl (hb hby d4_16) rfl ((if0 _ _).trans (flt (own_lcge (own_xor hx0 hy0 (by rw [Jvm.Kit.i64_add (by omega) (by omega)]; omega)) : ¬ ((lcmpW ((x ^^^ (x + y)) &&& (y ^^^ (x + y))) (0 : Int64)) < (0 : Int32)))).2.1) (by decide) (by decide) k) ?_
  show OwnEnds _ _ _ _ _ _ _ (s₁.setTop (mkF m 29 #[.val (.long x), .second, .val (.long y), .second, .val (.long (x + y)), .second] []))
  refine OwnEnds.st (fun t k => XS.lload X0.here hx rfl (hb hby d4_29) rfl k) ?_
  show OwnEnds _ _ _ _ _ _ _ (s₁.setTop (mkF m 31 #[.val (.long x), .second, .val (.long y), .second, .val (.long (x + y)), .second] [(.long (x + y))]))
  refine own_retJ X0 hx Bd.returns Bd.notSynchronized (hb hby d4_31) ?_ (by decide) (by decide)
  show Q4 Z x y h0 n0 _ s₁.heap _
  rw [e0]
  exact ⟨rfl, N0, rfl⟩
theorem d1_0 : decode prog_25_method_3_code 0 = .ok (.ldc2_w 101, 3) := by decide +kernel
theorem d1_3 : decode prog_25_method_3_code 3 = .ok (.ldc2_w 103, 3) := by decide +kernel
theorem d1_6 : decode prog_25_method_3_code 6 = .ok (.lload_n 1, 1) := by decide +kernel
theorem d1_7 : decode prog_25_method_3_code 7 = .ok (.lmul, 1) := by decide +kernel
theorem d1_8 : decode prog_25_method_3_code 8 = .ok (.lload 7, 2) := by decide +kernel
theorem d1_10 : decode prog_25_method_3_code 10 = .ok (.invokestatic 105, 3) := by decide +kernel
theorem d1_13 : decode prog_25_method_3_code 13 = .ok (.ldc2_w 109, 3) := by decide +kernel
theorem d1_16 : decode prog_25_method_3_code 16 = .ok (.lload 5, 2) := by decide +kernel
theorem d1_18 : decode prog_25_method_3_code 18 = .ok (.lmul, 1) := by decide +kernel
theorem d1_19 : decode prog_25_method_3_code 19 = .ok (.lload_n 3, 1) := by decide +kernel
theorem d1_20 : decode prog_25_method_3_code 20 = .ok (.invokestatic 105, 3) := by decide +kernel
theorem d1_23 : decode prog_25_method_3_code 23 = .ok (.invokestatic 111, 3) := by decide +kernel
theorem d1_26 : decode prog_25_method_3_code 26 = .ok (.invokestatic 105, 3) := by decide +kernel
theorem d1_29 : decode prog_25_method_3_code 29 = .ok (.lstore 9, 2) := by decide +kernel
theorem d1_31 : decode prog_25_method_3_code 31 = .ok (.ldc2_w 114, 3) := by decide +kernel
theorem d1_34 : decode prog_25_method_3_code 34 = .ok (.lload_n 3, 1) := by decide +kernel
theorem d1_35 : decode prog_25_method_3_code 35 = .ok (.lmul, 1) := by decide +kernel
theorem d1_36 : decode prog_25_method_3_code 36 = .ok (.lload 7, 2) := by decide +kernel
theorem d1_38 : decode prog_25_method_3_code 38 = .ok (.invokestatic 105, 3) := by decide +kernel
theorem d1_41 : decode prog_25_method_3_code 41 = .ok (.lstore 11, 2) := by decide +kernel
theorem d1_43 : decode prog_25_method_3_code 43 = .ok (.lload 9, 2) := by decide +kernel
theorem d1_45 : decode prog_25_method_3_code 45 = .ok (.lload 11, 2) := by decide +kernel
theorem d1_47 : decode prog_25_method_3_code 47 = .ok (.ladd, 1) := by decide +kernel
theorem d1_48 : decode prog_25_method_3_code 48 = .ok (.lconst 1, 1) := by decide +kernel
theorem d1_49 : decode prog_25_method_3_code 49 = .ok (.lsub, 1) := by decide +kernel
theorem d1_50 : decode prog_25_method_3_code 50 = .ok (.lload 11, 2) := by decide +kernel
theorem d1_52 : decode prog_25_method_3_code 52 = .ok (.ldiv, 1) := by decide +kernel
theorem d1_53 : decode prog_25_method_3_code 53 = .ok (.lstore 13, 2) := by decide +kernel
theorem d1_55 : decode prog_25_method_3_code 55 = .ok (.iload_n 0, 1) := by decide +kernel
theorem d1_56 : decode prog_25_method_3_code 56 = .ok (.ifCond .eq 9, 3) := by decide +kernel
theorem d1_59 : decode prog_25_method_3_code 59 = .ok (.sipush 500, 3) := by decide +kernel
theorem d1_62 : decode prog_25_method_3_code 62 = .ok (.goto 4, 3) := by decide +kernel
theorem d1_65 : decode prog_25_method_3_code 65 = .ok (.iconst 0, 1) := by decide +kernel
theorem d1_66 : decode prog_25_method_3_code 66 = .ok (.i2l, 1) := by decide +kernel
theorem d1_67 : decode prog_25_method_3_code 67 = .ok (.lload 13, 2) := by decide +kernel
theorem d1_69 : decode prog_25_method_3_code 69 = .ok (.ladd, 1) := by decide +kernel
theorem d1_70 : decode prog_25_method_3_code 70 = .ok (.l2d, 1) := by decide +kernel
theorem d1_71 : decode prog_25_method_3_code 71 = .ok (.ldc2_w 116, 3) := by decide +kernel
theorem d1_74 : decode prog_25_method_3_code 74 = .ok (.ddiv, 1) := by decide +kernel
theorem d1_75 : decode prog_25_method_3_code 75 = .ok (.dreturn, 1) := by decide +kernel
theorem ef_1 (m : MethodId) (x0 : Int32) (x1 : Int64) (x2 : Int64) (x3 : Int64) (x4 : Int64) : entryFrame m #[(.int x0), (.long x1), (.long x2), (.long x3), (.long x4)] 15 = mkF m 0 #[.val (.int x0), .val (.long x1), .second, .val (.long x2), .second, .val (.long x3), .second, .val (.long x4), .second, .unset, .unset, .unset, .unset, .unset, .unset] [] := by first | (simp [entryFrame, mkF, argsToLocals, Value.category]; done) | rfl
def Q1 (Z : State) (z : Int32) (W : Int64) (A : Int64) (H : Int64) (B : Int64) (h0 : Heap) (n0 : Nat) (v : Option Value) (h : Heap) (L : List Loc) : Prop := v = some (.double (own_r (own_off z + own_k W A H B))) ∧ Fr n0 L ∧ h = h0
set_option maxRecDepth 65536 in
set_option maxHeartbeats 40000000 in
theorem rm1 (l : Launch) (Z : State) (a0 : Array Value) (hw : ∀ d ∈ tables_1, d.before a0 Z = true) (ws : List Jvm.Cond) (z : Int32) (W : Int64) (A : Int64) (H : Int64) (B : Int64) (h0 : Heap) (n0 : Nat) (Z0 : n0 ≤ h0.size) (hB : own_B W A H B) :
    MetFree l (⟨"com/example/equate/equate/mathml/Likeness", "likeness", "(ZJJJJ)D"⟩ : MethodName) (head1 (Jvm.Cond.code (⟨"com/example/equate/equate/mathml/Likeness", "likeness", "(ZJJJJ)D"⟩ : MethodName) prog_25_method_3_code 15 (some .double) :: ws) ({ frames := 2, cells := 0, slots := 0, locals := 38 } : Room)) (fun a U => a = #[(.int z), (.long W), (.long A), (.long H), (.long B)] ∧ Z.Warmed39 U.vm ∧ U.heap = h0) (fun _ _ _ _ _ => True) (fun _ U o U' => ∃ v L, o = .returned v ∧ Q1 Z z W A H B h0 n0 v U'.heap L ∧ FrameEnd U o U' L ({ frames := 2, cells := 0, slots := 0, locals := 38 } : Room).cells ({ frames := 2, cells := 0, slots := 0, locals := 38 } : Room).slots) := by
  refine MetFree.of_bodySF (plainFor_of_name pn_0) hisR ?_
  intro p e s m args below meth c s₁ Bd hml0 hP hK
  obtain ⟨rfl, hZ, hh⟩ := hP
  have hx := Bd.exec
  have hby := Bd.bytes
  have hml : c.maxLocals = 15 := hml0
  have hown : s.vm.findClass "com/example/equate/equate/mathml/Likeness" = some m.cls := findClass_of_methodNamed Bd.named
  have hnm := (name_of_methodNamed Bd.named Bd.method).1
  have X0 : Stand p l e ({ frames := 2, cells := 0, slots := 0, locals := 38 } : Room) s m #[(.int z), (.long W), (.long A), (.long H), (.long B)] below meth c s₁ [] 0 0 := Stand.of_body Bd
  have e0 : s₁.heap = h0 := by rw [← hh, Bd.state]; rfl
  have N0 := Fr.nil n0
  show OwnEnds p e below s (Q1 Z z W A H B h0 n0) ({ frames := 2, cells := 0, slots := 0, locals := 38 } : Room).cells ({ frames := 2, cells := 0, slots := 0, locals := 38 } : Room).slots (s₁.setTop (entryFrame m #[(.int z), (.long W), (.long A), (.long H), (.long B)] 15))
  rw [ef_1]
  show OwnEnds _ _ _ _ _ _ _ (s₁.setTop (mkF m 0 #[.val (.int z), .val (.long W), .second, .val (.long A), .second, .val (.long H), .second, .val (.long B), .second, .unset, .unset, .unset, .unset, .unset, .unset] []))
  refine OwnEnds.st (fun t k => X0.ldc2Long hx hown (mvT hZ (hw _ (List.mem_of_getElem? (i := 7) rfl))) (g := (mkF m 0 #[.val (.int z), .val (.long W), .second, .val (.long A), .second, .val (.long H), .second, .val (.long B), .second, .unset, .unset, .unset, .unset, .unset, .unset] [])) rfl (hb hby d1_0) t k) ?_
  show OwnEnds _ _ _ _ _ _ _ (s₁.setTop (mkF m 3 #[.val (.int z), .val (.long W), .second, .val (.long A), .second, .val (.long H), .second, .val (.long B), .second, .unset, .unset, .unset, .unset, .unset, .unset] [(.long (500 : Int64))]))
  refine OwnEnds.st (fun t k => X0.ldc2Long hx hown (mvT hZ (hw _ (List.mem_of_getElem? (i := 8) rfl))) (g := (mkF m 3 #[.val (.int z), .val (.long W), .second, .val (.long A), .second, .val (.long H), .second, .val (.long B), .second, .unset, .unset, .unset, .unset, .unset, .unset] [(.long (500 : Int64))])) rfl (hb hby d1_3) t k) ?_
  show OwnEnds _ _ _ _ _ _ _ (s₁.setTop (mkF m 6 #[.val (.int z), .val (.long W), .second, .val (.long A), .second, .val (.long H), .second, .val (.long B), .second, .unset, .unset, .unset, .unset, .unset, .unset] [(.long (3 : Int64)), (.long (500 : Int64))]))
  refine OwnEnds.st (fun t k => XS.lloadN X0.here hx rfl (hb hby d1_6) rfl k) ?_
  show OwnEnds _ _ _ _ _ _ _ (s₁.setTop (mkF m 7 #[.val (.int z), .val (.long W), .second, .val (.long A), .second, .val (.long H), .second, .val (.long B), .second, .unset, .unset, .unset, .unset, .unset, .unset] [(.long W), (.long (3 : Int64)), (.long (500 : Int64))]))
  refine OwnEnds.st (fun t k => XS.lmul X0.here hx rfl (hb hby d1_7) rfl k) ?_
  show OwnEnds _ _ _ _ _ _ _ (s₁.setTop (mkF m 8 #[.val (.int z), .val (.long W), .second, .val (.long A), .second, .val (.long H), .second, .val (.long B), .second, .unset, .unset, .unset, .unset, .unset, .unset] [(.long ((3 : Int64) * W)), (.long (500 : Int64))]))
  refine OwnEnds.st (fun t k => XS.lload X0.here hx rfl (hb hby d1_8) rfl k) ?_
  show OwnEnds _ _ _ _ _ _ _ (s₁.setTop (mkF m 10 #[.val (.int z), .val (.long W), .second, .val (.long A), .second, .val (.long H), .second, .val (.long B), .second, .unset, .unset, .unset, .unset, .unset, .unset] [(.long B), (.long ((3 : Int64) * W)), (.long (500 : Int64))]))
  obtain ⟨_, _, ⟨T1, L1, k1, n1⟩, -, X1, ⟨Lc1, hQ1, l1, y1, z1⟩, st1⟩ := Jvm.LawKit.callS X0 hx (y := (⟨"java/lang/Math", "multiplyExact", "(JJ)J"⟩ : MethodName)) hown (mvT hZ (hw _ (List.mem_of_getElem? (i := 9) rfl))) (mvT hZ (hw _ (List.mem_of_getElem? (i := 10) rfl))) (mvT hZ (hw _ (List.mem_of_getElem? (i := 11) rfl))) (mvT hZ (hw _ (List.mem_of_getElem? (i := 12) rfl))) (by decide) (backOf (W := 2) (rm2 l Z a0 hw [] ((3 : Int64) * W) B h0 n0 Z0 (own_fits hB).1.1 (own_fits hB).1.2.1 (own_fits hB).1.2.2) hZ (hw _ (List.mem_of_getElem? (i := 12) rfl)) (hw _ (List.mem_of_getElem? (i := 11) rfl)) (by decide) (by decide)) (g := (mkF m 10 #[.val (.int z), .val (.long W), .second, .val (.long A), .second, .val (.long H), .second, .val (.long B), .second, .unset, .unset, .unset, .unset, .unset, .unset] [(.long B), (.long ((3 : Int64) * W)), (.long (500 : Int64))])) rfl (by rw [hml]; rfl) (argsL := [(.long ((3 : Int64) * W)), (.long B)]) (rest := [(.long (500 : Int64))]) (lenOf pd_1 rfl) rfl (by show 2 * 0 + _ ≤ _; exact Nat.le_of_eq rfl) (hb hby d1_10) (fun _ _ => ⟨rfl, e0, (by decide : 0 + 0 ≤ _), (by decide : 0 + 0 ≤ _)⟩)
  dsimp only [Pt.U, Pt.locs, Pt.cells, Pt.slots] at X1 l1 y1 z1 st1 hQ1
  subst l1 y1 z1
  obtain ⟨rfl, N1q, hh1⟩ := hQ1
  have N1 := Fr.app N0 N1q
  refine OwnEnds.st st1 ?_
  show OwnEnds _ _ _ _ _ _ _ (T1.setTop (mkF m 13 #[.val (.int z), .val (.long W), .second, .val (.long A), .second, .val (.long H), .second, .val (.long B), .second, .unset, .unset, .unset, .unset, .unset, .unset] [(.long (((3 : Int64) * W) * B)), (.long (500 : Int64))]))
  refine OwnEnds.st (fun t k => X1.ldc2Long hx hown (mvT hZ (hw _ (List.mem_of_getElem? (i := 16) rfl))) (g := (mkF m 13 #[.val (.int z), .val (.long W), .second, .val (.long A), .second, .val (.long H), .second, .val (.long B), .second, .unset, .unset, .unset, .unset, .unset, .unset] [(.long (((3 : Int64) * W) * B)), (.long (500 : Int64))])) rfl (hb hby d1_13) t k) ?_
  show OwnEnds _ _ _ _ _ _ _ (T1.setTop (mkF m 16 #[.val (.int z), .val (.long W), .second, .val (.long A), .second, .val (.long H), .second, .val (.long B), .second, .unset, .unset, .unset, .unset, .unset, .unset] [(.long (2 : Int64)), (.long (((3 : Int64) * W) * B)), (.long (500 : Int64))]))
  refine OwnEnds.st (fun t k => XS.lload X1.here hx rfl (hb hby d1_16) rfl k) ?_
  show OwnEnds _ _ _ _ _ _ _ (T1.setTop (mkF m 18 #[.val (.int z), .val (.long W), .second, .val (.long A), .second, .val (.long H), .second, .val (.long B), .second, .unset, .unset, .unset, .unset, .unset, .unset] [(.long H), (.long (2 : Int64)), (.long (((3 : Int64) * W) * B)), (.long (500 : Int64))]))
  refine OwnEnds.st (fun t k => XS.lmul X1.here hx rfl (hb hby d1_18) rfl k) ?_
  show OwnEnds _ _ _ _ _ _ _ (T1.setTop (mkF m 19 #[.val (.int z), .val (.long W), .second, .val (.long A), .second, .val (.long H), .second, .val (.long B), .second, .unset, .unset, .unset, .unset, .unset, .unset] [(.long ((2 : Int64) * H)), (.long (((3 : Int64) * W) * B)), (.long (500 : Int64))]))
  refine OwnEnds.st (fun t k => XS.lloadN X1.here hx rfl (hb hby d1_19) rfl k) ?_
  show OwnEnds _ _ _ _ _ _ _ (T1.setTop (mkF m 20 #[.val (.int z), .val (.long W), .second, .val (.long A), .second, .val (.long H), .second, .val (.long B), .second, .unset, .unset, .unset, .unset, .unset, .unset] [(.long A), (.long ((2 : Int64) * H)), (.long (((3 : Int64) * W) * B)), (.long (500 : Int64))]))
  obtain ⟨_, _, ⟨T2, L2, k2, n2⟩, -, X2, ⟨Lc2, hQ2, l2, y2, z2⟩, st2⟩ := Jvm.LawKit.callS X1 hx (y := (⟨"java/lang/Math", "multiplyExact", "(JJ)J"⟩ : MethodName)) hown (mvT hZ (hw _ (List.mem_of_getElem? (i := 9) rfl))) (mvT hZ (hw _ (List.mem_of_getElem? (i := 10) rfl))) (mvT hZ (hw _ (List.mem_of_getElem? (i := 11) rfl))) (mvT hZ (hw _ (List.mem_of_getElem? (i := 12) rfl))) (by decide) (backOf (W := 4) (rm2 l Z a0 hw [] ((2 : Int64) * H) A h0 n0 Z0 (own_fits hB).2.1.1 (own_fits hB).2.1.2.1 (own_fits hB).2.1.2.2) hZ (hw _ (List.mem_of_getElem? (i := 12) rfl)) (hw _ (List.mem_of_getElem? (i := 11) rfl)) (by decide) (by decide)) (g := (mkF m 20 #[.val (.int z), .val (.long W), .second, .val (.long A), .second, .val (.long H), .second, .val (.long B), .second, .unset, .unset, .unset, .unset, .unset, .unset] [(.long A), (.long ((2 : Int64) * H)), (.long (((3 : Int64) * W) * B)), (.long (500 : Int64))])) rfl (by rw [hml]; rfl) (argsL := [(.long ((2 : Int64) * H)), (.long A)]) (rest := [(.long (((3 : Int64) * W) * B)), (.long (500 : Int64))]) (lenOf pd_1 rfl) rfl (by show 2 * 0 + _ ≤ _; exact Nat.le_of_eq rfl) (hb hby d1_20) (fun _ _ => ⟨rfl, hh1, (by decide : 0 + 0 ≤ _), (by decide : 0 + 0 ≤ _)⟩)
  dsimp only [Pt.U, Pt.locs, Pt.cells, Pt.slots] at X2 l2 y2 z2 st2 hQ2
  subst l2 y2 z2
  obtain ⟨rfl, N2q, hh2⟩ := hQ2
  have N2 := Fr.app N1 N2q
  refine OwnEnds.st st2 ?_
  show OwnEnds _ _ _ _ _ _ _ (T2.setTop (mkF m 23 #[.val (.int z), .val (.long W), .second, .val (.long A), .second, .val (.long H), .second, .val (.long B), .second, .unset, .unset, .unset, .unset, .unset, .unset] [(.long (((2 : Int64) * H) * A)), (.long (((3 : Int64) * W) * B)), (.long (500 : Int64))]))
  obtain ⟨_, _, ⟨T3, L3, k3, n3⟩, -, X3, ⟨Lc3, hQ3, l3, y3, z3⟩, st3⟩ := Jvm.LawKit.callS X2 hx (y := (⟨"java/lang/Math", "addExact", "(JJ)J"⟩ : MethodName)) hown (mvT hZ (hw _ (List.mem_of_getElem? (i := 17) rfl))) (mvT hZ (hw _ (List.mem_of_getElem? (i := 18) rfl))) (mvT hZ (hw _ (List.mem_of_getElem? (i := 11) rfl))) (mvT hZ (hw _ (List.mem_of_getElem? (i := 19) rfl))) (by decide) (backOf (W := 2) (rm4 l Z a0 hw [] (((3 : Int64) * W) * B) (((2 : Int64) * H) * A) h0 n0 Z0 (own_fits hB).2.2.1.1 (own_fits hB).2.2.1.2.1 (own_fits hB).2.2.1.2.2) hZ (hw _ (List.mem_of_getElem? (i := 19) rfl)) (hw _ (List.mem_of_getElem? (i := 11) rfl)) (by decide) (by decide)) (g := (mkF m 23 #[.val (.int z), .val (.long W), .second, .val (.long A), .second, .val (.long H), .second, .val (.long B), .second, .unset, .unset, .unset, .unset, .unset, .unset] [(.long (((2 : Int64) * H) * A)), (.long (((3 : Int64) * W) * B)), (.long (500 : Int64))])) rfl (by rw [hml]; rfl) (argsL := [(.long (((3 : Int64) * W) * B)), (.long (((2 : Int64) * H) * A))]) (rest := [(.long (500 : Int64))]) (lenOf pd_1 rfl) rfl (by show 2 * 0 + _ ≤ _; exact Nat.le_of_eq rfl) (hb hby d1_23) (fun _ _ => ⟨rfl, hh2, (by decide : 0 + 0 ≤ _), (by decide : 0 + 0 ≤ _)⟩)
  dsimp only [Pt.U, Pt.locs, Pt.cells, Pt.slots] at X3 l3 y3 z3 st3 hQ3
  subst l3 y3 z3
  obtain ⟨rfl, N3q, hh3⟩ := hQ3
  have N3 := Fr.app N2 N3q
  refine OwnEnds.st st3 ?_
  show OwnEnds _ _ _ _ _ _ _ (T3.setTop (mkF m 26 #[.val (.int z), .val (.long W), .second, .val (.long A), .second, .val (.long H), .second, .val (.long B), .second, .unset, .unset, .unset, .unset, .unset, .unset] [(.long ((((3 : Int64) * W) * B) + (((2 : Int64) * H) * A))), (.long (500 : Int64))]))
  obtain ⟨_, _, ⟨T4, L4, k4, n4⟩, -, X4, ⟨Lc4, hQ4, l4, y4, z4⟩, st4⟩ := Jvm.LawKit.callS X3 hx (y := (⟨"java/lang/Math", "multiplyExact", "(JJ)J"⟩ : MethodName)) hown (mvT hZ (hw _ (List.mem_of_getElem? (i := 9) rfl))) (mvT hZ (hw _ (List.mem_of_getElem? (i := 10) rfl))) (mvT hZ (hw _ (List.mem_of_getElem? (i := 11) rfl))) (mvT hZ (hw _ (List.mem_of_getElem? (i := 12) rfl))) (by decide) (backOf (W := 0) (rm2 l Z a0 hw [] (500 : Int64) ((((3 : Int64) * W) * B) + (((2 : Int64) * H) * A)) h0 n0 Z0 (own_fits hB).2.2.2.1.1 (own_fits hB).2.2.2.1.2.1 (own_fits hB).2.2.2.1.2.2) hZ (hw _ (List.mem_of_getElem? (i := 12) rfl)) (hw _ (List.mem_of_getElem? (i := 11) rfl)) (by decide) (by decide)) (g := (mkF m 26 #[.val (.int z), .val (.long W), .second, .val (.long A), .second, .val (.long H), .second, .val (.long B), .second, .unset, .unset, .unset, .unset, .unset, .unset] [(.long ((((3 : Int64) * W) * B) + (((2 : Int64) * H) * A))), (.long (500 : Int64))])) rfl (by rw [hml]; rfl) (argsL := [(.long (500 : Int64)), (.long ((((3 : Int64) * W) * B) + (((2 : Int64) * H) * A)))]) (rest := []) (lenOf pd_1 rfl) rfl (by show 2 * 0 + _ ≤ _; exact Nat.le_of_eq rfl) (hb hby d1_26) (fun _ _ => ⟨rfl, hh3, (by decide : 0 + 0 ≤ _), (by decide : 0 + 0 ≤ _)⟩)
  dsimp only [Pt.U, Pt.locs, Pt.cells, Pt.slots] at X4 l4 y4 z4 st4 hQ4
  subst l4 y4 z4
  obtain ⟨rfl, N4q, hh4⟩ := hQ4
  have N4 := Fr.app N3 N4q
  refine OwnEnds.st st4 ?_
  show OwnEnds _ _ _ _ _ _ _ (T4.setTop (mkF m 29 #[.val (.int z), .val (.long W), .second, .val (.long A), .second, .val (.long H), .second, .val (.long B), .second, .unset, .unset, .unset, .unset, .unset, .unset] [(.long ((500 : Int64) * ((((3 : Int64) * W) * B) + (((2 : Int64) * H) * A))))]))
  refine OwnEnds.st (fun t k => XS.lstore X4.here hx rfl (hb hby d1_29) rfl (l' := #[.val (.int z), .val (.long W), .second, .val (.long A), .second, .val (.long H), .second, .val (.long B), .second, .val (.long ((500 : Int64) * ((((3 : Int64) * W) * B) + (((2 : Int64) * H) * A)))), .second, .unset, .unset, .unset, .unset]) rfl k) ?_
  show OwnEnds _ _ _ _ _ _ _ (T4.setTop (mkF m 31 #[.val (.int z), .val (.long W), .second, .val (.long A), .second, .val (.long H), .second, .val (.long B), .second, .val (.long ((500 : Int64) * ((((3 : Int64) * W) * B) + (((2 : Int64) * H) * A)))), .second, .unset, .unset, .unset, .unset] []))
  refine OwnEnds.st (fun t k => X4.ldc2Long hx hown (mvT hZ (hw _ (List.mem_of_getElem? (i := 20) rfl))) (g := (mkF m 31 #[.val (.int z), .val (.long W), .second, .val (.long A), .second, .val (.long H), .second, .val (.long B), .second, .val (.long ((500 : Int64) * ((((3 : Int64) * W) * B) + (((2 : Int64) * H) * A)))), .second, .unset, .unset, .unset, .unset] [])) rfl (hb hby d1_31) t k) ?_
  show OwnEnds _ _ _ _ _ _ _ (T4.setTop (mkF m 34 #[.val (.int z), .val (.long W), .second, .val (.long A), .second, .val (.long H), .second, .val (.long B), .second, .val (.long ((500 : Int64) * ((((3 : Int64) * W) * B) + (((2 : Int64) * H) * A)))), .second, .unset, .unset, .unset, .unset] [(.long (4 : Int64))]))
  refine OwnEnds.st (fun t k => XS.lloadN X4.here hx rfl (hb hby d1_34) rfl k) ?_
  show OwnEnds _ _ _ _ _ _ _ (T4.setTop (mkF m 35 #[.val (.int z), .val (.long W), .second, .val (.long A), .second, .val (.long H), .second, .val (.long B), .second, .val (.long ((500 : Int64) * ((((3 : Int64) * W) * B) + (((2 : Int64) * H) * A)))), .second, .unset, .unset, .unset, .unset] [(.long A), (.long (4 : Int64))]))
  refine OwnEnds.st (fun t k => XS.lmul X4.here hx rfl (hb hby d1_35) rfl k) ?_
  show OwnEnds _ _ _ _ _ _ _ (T4.setTop (mkF m 36 #[.val (.int z), .val (.long W), .second, .val (.long A), .second, .val (.long H), .second, .val (.long B), .second, .val (.long ((500 : Int64) * ((((3 : Int64) * W) * B) + (((2 : Int64) * H) * A)))), .second, .unset, .unset, .unset, .unset] [(.long ((4 : Int64) * A))]))
  refine OwnEnds.st (fun t k => XS.lload X4.here hx rfl (hb hby d1_36) rfl k) ?_
  show OwnEnds _ _ _ _ _ _ _ (T4.setTop (mkF m 38 #[.val (.int z), .val (.long W), .second, .val (.long A), .second, .val (.long H), .second, .val (.long B), .second, .val (.long ((500 : Int64) * ((((3 : Int64) * W) * B) + (((2 : Int64) * H) * A)))), .second, .unset, .unset, .unset, .unset] [(.long B), (.long ((4 : Int64) * A))]))
  obtain ⟨_, _, ⟨T5, L5, k5, n5⟩, -, X5, ⟨Lc5, hQ5, l5, y5, z5⟩, st5⟩ := Jvm.LawKit.callS X4 hx (y := (⟨"java/lang/Math", "multiplyExact", "(JJ)J"⟩ : MethodName)) hown (mvT hZ (hw _ (List.mem_of_getElem? (i := 9) rfl))) (mvT hZ (hw _ (List.mem_of_getElem? (i := 10) rfl))) (mvT hZ (hw _ (List.mem_of_getElem? (i := 11) rfl))) (mvT hZ (hw _ (List.mem_of_getElem? (i := 12) rfl))) (by decide) (backOf (W := 0) (rm2 l Z a0 hw [] ((4 : Int64) * A) B h0 n0 Z0 (own_fits hB).2.2.2.2.1 (own_fits hB).1.2.1 (own_fits hB).2.2.2.2.2) hZ (hw _ (List.mem_of_getElem? (i := 12) rfl)) (hw _ (List.mem_of_getElem? (i := 11) rfl)) (by decide) (by decide)) (g := (mkF m 38 #[.val (.int z), .val (.long W), .second, .val (.long A), .second, .val (.long H), .second, .val (.long B), .second, .val (.long ((500 : Int64) * ((((3 : Int64) * W) * B) + (((2 : Int64) * H) * A)))), .second, .unset, .unset, .unset, .unset] [(.long B), (.long ((4 : Int64) * A))])) rfl (by rw [hml]; rfl) (argsL := [(.long ((4 : Int64) * A)), (.long B)]) (rest := []) (lenOf pd_1 rfl) rfl (by show 2 * 0 + _ ≤ _; exact Nat.le_of_eq rfl) (hb hby d1_38) (fun _ _ => ⟨rfl, hh4, (by decide : 0 + 0 ≤ _), (by decide : 0 + 0 ≤ _)⟩)
  dsimp only [Pt.U, Pt.locs, Pt.cells, Pt.slots] at X5 l5 y5 z5 st5 hQ5
  subst l5 y5 z5
  obtain ⟨rfl, N5q, hh5⟩ := hQ5
  have N5 := Fr.app N4 N5q
  refine OwnEnds.st st5 ?_
  show OwnEnds _ _ _ _ _ _ _ (T5.setTop (mkF m 41 #[.val (.int z), .val (.long W), .second, .val (.long A), .second, .val (.long H), .second, .val (.long B), .second, .val (.long ((500 : Int64) * ((((3 : Int64) * W) * B) + (((2 : Int64) * H) * A)))), .second, .unset, .unset, .unset, .unset] [(.long (((4 : Int64) * A) * B))]))
  refine OwnEnds.st (fun t k => XS.lstore X5.here hx rfl (hb hby d1_41) rfl (l' := #[.val (.int z), .val (.long W), .second, .val (.long A), .second, .val (.long H), .second, .val (.long B), .second, .val (.long ((500 : Int64) * ((((3 : Int64) * W) * B) + (((2 : Int64) * H) * A)))), .second, .val (.long (((4 : Int64) * A) * B)), .second, .unset, .unset]) rfl k) ?_
  show OwnEnds _ _ _ _ _ _ _ (T5.setTop (mkF m 43 #[.val (.int z), .val (.long W), .second, .val (.long A), .second, .val (.long H), .second, .val (.long B), .second, .val (.long ((500 : Int64) * ((((3 : Int64) * W) * B) + (((2 : Int64) * H) * A)))), .second, .val (.long (((4 : Int64) * A) * B)), .second, .unset, .unset] []))
  refine OwnEnds.st (fun t k => XS.lload X5.here hx rfl (hb hby d1_43) rfl k) ?_
  show OwnEnds _ _ _ _ _ _ _ (T5.setTop (mkF m 45 #[.val (.int z), .val (.long W), .second, .val (.long A), .second, .val (.long H), .second, .val (.long B), .second, .val (.long ((500 : Int64) * ((((3 : Int64) * W) * B) + (((2 : Int64) * H) * A)))), .second, .val (.long (((4 : Int64) * A) * B)), .second, .unset, .unset] [(.long ((500 : Int64) * ((((3 : Int64) * W) * B) + (((2 : Int64) * H) * A))))]))
  refine OwnEnds.st (fun t k => XS.lload X5.here hx rfl (hb hby d1_45) rfl k) ?_
  show OwnEnds _ _ _ _ _ _ _ (T5.setTop (mkF m 47 #[.val (.int z), .val (.long W), .second, .val (.long A), .second, .val (.long H), .second, .val (.long B), .second, .val (.long ((500 : Int64) * ((((3 : Int64) * W) * B) + (((2 : Int64) * H) * A)))), .second, .val (.long (((4 : Int64) * A) * B)), .second, .unset, .unset] [(.long (((4 : Int64) * A) * B)), (.long ((500 : Int64) * ((((3 : Int64) * W) * B) + (((2 : Int64) * H) * A))))]))
  refine OwnEnds.st (fun t k => XS.ladd X5.here hx rfl (hb hby d1_47) rfl k) ?_
  show OwnEnds _ _ _ _ _ _ _ (T5.setTop (mkF m 48 #[.val (.int z), .val (.long W), .second, .val (.long A), .second, .val (.long H), .second, .val (.long B), .second, .val (.long ((500 : Int64) * ((((3 : Int64) * W) * B) + (((2 : Int64) * H) * A)))), .second, .val (.long (((4 : Int64) * A) * B)), .second, .unset, .unset] [(.long (((500 : Int64) * ((((3 : Int64) * W) * B) + (((2 : Int64) * H) * A))) + (((4 : Int64) * A) * B)))]))
  refine OwnEnds.st (fun t k => XS.lconst X5.here hx rfl (hb hby d1_48) k) ?_
  show OwnEnds _ _ _ _ _ _ _ (T5.setTop (mkF m 49 #[.val (.int z), .val (.long W), .second, .val (.long A), .second, .val (.long H), .second, .val (.long B), .second, .val (.long ((500 : Int64) * ((((3 : Int64) * W) * B) + (((2 : Int64) * H) * A)))), .second, .val (.long (((4 : Int64) * A) * B)), .second, .unset, .unset] [(.long (1 : Int64)), (.long (((500 : Int64) * ((((3 : Int64) * W) * B) + (((2 : Int64) * H) * A))) + (((4 : Int64) * A) * B)))]))
  refine OwnEnds.st (fun t k => XS.lsub X5.here hx rfl (hb hby d1_49) rfl k) ?_
  show OwnEnds _ _ _ _ _ _ _ (T5.setTop (mkF m 50 #[.val (.int z), .val (.long W), .second, .val (.long A), .second, .val (.long H), .second, .val (.long B), .second, .val (.long ((500 : Int64) * ((((3 : Int64) * W) * B) + (((2 : Int64) * H) * A)))), .second, .val (.long (((4 : Int64) * A) * B)), .second, .unset, .unset] [(.long ((((500 : Int64) * ((((3 : Int64) * W) * B) + (((2 : Int64) * H) * A))) + (((4 : Int64) * A) * B)) - (1 : Int64)))]))
  refine OwnEnds.st (fun t k => XS.lload X5.here hx rfl (hb hby d1_50) rfl k) ?_
  show OwnEnds _ _ _ _ _ _ _ (T5.setTop (mkF m 52 #[.val (.int z), .val (.long W), .second, .val (.long A), .second, .val (.long H), .second, .val (.long B), .second, .val (.long ((500 : Int64) * ((((3 : Int64) * W) * B) + (((2 : Int64) * H) * A)))), .second, .val (.long (((4 : Int64) * A) * B)), .second, .unset, .unset] [(.long (((4 : Int64) * A) * B)), (.long ((((500 : Int64) * ((((3 : Int64) * W) * B) + (((2 : Int64) * H) * A))) + (((4 : Int64) * A) * B)) - (1 : Int64)))]))
  refine OwnEnds.st (fun t k => XS.ldiv X5.here hx rfl (hb hby d1_52) rfl (own_kk hB).2.2.2.2.2.2 k) ?_
  show OwnEnds _ _ _ _ _ _ _ (T5.setTop (mkF m 53 #[.val (.int z), .val (.long W), .second, .val (.long A), .second, .val (.long H), .second, .val (.long B), .second, .val (.long ((500 : Int64) * ((((3 : Int64) * W) * B) + (((2 : Int64) * H) * A)))), .second, .val (.long (((4 : Int64) * A) * B)), .second, .unset, .unset] [(.long (((((500 : Int64) * ((((3 : Int64) * W) * B) + (((2 : Int64) * H) * A))) + (((4 : Int64) * A) * B)) - (1 : Int64)) / (((4 : Int64) * A) * B)))]))
  refine OwnEnds.st (fun t k => XS.lstore X5.here hx rfl (hb hby d1_53) rfl (l' := #[.val (.int z), .val (.long W), .second, .val (.long A), .second, .val (.long H), .second, .val (.long B), .second, .val (.long ((500 : Int64) * ((((3 : Int64) * W) * B) + (((2 : Int64) * H) * A)))), .second, .val (.long (((4 : Int64) * A) * B)), .second, .val (.long (((((500 : Int64) * ((((3 : Int64) * W) * B) + (((2 : Int64) * H) * A))) + (((4 : Int64) * A) * B)) - (1 : Int64)) / (((4 : Int64) * A) * B))), .second]) rfl k) ?_
  show OwnEnds _ _ _ _ _ _ _ (T5.setTop (mkF m 55 #[.val (.int z), .val (.long W), .second, .val (.long A), .second, .val (.long H), .second, .val (.long B), .second, .val (.long ((500 : Int64) * ((((3 : Int64) * W) * B) + (((2 : Int64) * H) * A)))), .second, .val (.long (((4 : Int64) * A) * B)), .second, .val (.long (((((500 : Int64) * ((((3 : Int64) * W) * B) + (((2 : Int64) * H) * A))) + (((4 : Int64) * A) * B)) - (1 : Int64)) / (((4 : Int64) * A) * B))), .second] []))
  refine OwnEnds.st (fun t k => XS.iloadN X5.here hx rfl (hb hby d1_55) rfl k) ?_
  show OwnEnds _ _ _ _ _ _ _ (T5.setTop (mkF m 56 #[.val (.int z), .val (.long W), .second, .val (.long A), .second, .val (.long H), .second, .val (.long B), .second, .val (.long ((500 : Int64) * ((((3 : Int64) * W) * B) + (((2 : Int64) * H) * A)))), .second, .val (.long (((4 : Int64) * A) * B)), .second, .val (.long (((((500 : Int64) * ((((3 : Int64) * W) * B) + (((2 : Int64) * H) * A))) + (((4 : Int64) * A) * B)) - (1 : Int64)) / (((4 : Int64) * A) * B))), .second] [(.int z)]))
  by_cases hz : z = 0
  · refine OwnEnds.st (fun t k => XS.ifYes X5.here hx rfl (pc0 := 56) (pc' := 65) rfl (hb hby d1_56) rfl ((if0 _ _).trans (teq (hz : z = (0 : Int32))).1) (by decide) (by decide) k) ?_
    show OwnEnds _ _ _ _ _ _ _ (T5.setTop (mkF m 65 #[.val (.int z), .val (.long W), .second, .val (.long A), .second, .val (.long H), .second, .val (.long B), .second, .val (.long ((500 : Int64) * ((((3 : Int64) * W) * B) + (((2 : Int64) * H) * A)))), .second, .val (.long (((4 : Int64) * A) * B)), .second, .val (.long (((((500 : Int64) * ((((3 : Int64) * W) * B) + (((2 : Int64) * H) * A))) + (((4 : Int64) * A) * B)) - (1 : Int64)) / (((4 : Int64) * A) * B))), .second] []))
    refine OwnEnds.st (fun t k => XS.iconst X5.here hx rfl (hb hby d1_65) k) ?_
    show OwnEnds _ _ _ _ _ _ _ (T5.setTop (mkF m 66 #[.val (.int z), .val (.long W), .second, .val (.long A), .second, .val (.long H), .second, .val (.long B), .second, .val (.long ((500 : Int64) * ((((3 : Int64) * W) * B) + (((2 : Int64) * H) * A)))), .second, .val (.long (((4 : Int64) * A) * B)), .second, .val (.long (((((500 : Int64) * ((((3 : Int64) * W) * B) + (((2 : Int64) * H) * A))) + (((4 : Int64) * A) * B)) - (1 : Int64)) / (((4 : Int64) * A) * B))), .second] [(.int (0 : Int32))]))
    refine OwnEnds.st (fun t k => XS.i2l X5.here hx rfl (hb hby d1_66) rfl k) ?_
    show OwnEnds _ _ _ _ _ _ _ (T5.setTop (mkF m 67 #[.val (.int z), .val (.long W), .second, .val (.long A), .second, .val (.long H), .second, .val (.long B), .second, .val (.long ((500 : Int64) * ((((3 : Int64) * W) * B) + (((2 : Int64) * H) * A)))), .second, .val (.long (((4 : Int64) * A) * B)), .second, .val (.long (((((500 : Int64) * ((((3 : Int64) * W) * B) + (((2 : Int64) * H) * A))) + (((4 : Int64) * A) * B)) - (1 : Int64)) / (((4 : Int64) * A) * B))), .second] [(.long ((0 : Int32).toInt64))]))
    refine OwnEnds.st (fun t k => XS.lload X5.here hx rfl (hb hby d1_67) rfl k) ?_
    show OwnEnds _ _ _ _ _ _ _ (T5.setTop (mkF m 69 #[.val (.int z), .val (.long W), .second, .val (.long A), .second, .val (.long H), .second, .val (.long B), .second, .val (.long ((500 : Int64) * ((((3 : Int64) * W) * B) + (((2 : Int64) * H) * A)))), .second, .val (.long (((4 : Int64) * A) * B)), .second, .val (.long (((((500 : Int64) * ((((3 : Int64) * W) * B) + (((2 : Int64) * H) * A))) + (((4 : Int64) * A) * B)) - (1 : Int64)) / (((4 : Int64) * A) * B))), .second] [(.long (((((500 : Int64) * ((((3 : Int64) * W) * B) + (((2 : Int64) * H) * A))) + (((4 : Int64) * A) * B)) - (1 : Int64)) / (((4 : Int64) * A) * B))), (.long ((0 : Int32).toInt64))]))
    refine OwnEnds.st (fun t k => XS.ladd X5.here hx rfl (hb hby d1_69) rfl k) ?_
    show OwnEnds _ _ _ _ _ _ _ (T5.setTop (mkF m 70 #[.val (.int z), .val (.long W), .second, .val (.long A), .second, .val (.long H), .second, .val (.long B), .second, .val (.long ((500 : Int64) * ((((3 : Int64) * W) * B) + (((2 : Int64) * H) * A)))), .second, .val (.long (((4 : Int64) * A) * B)), .second, .val (.long (((((500 : Int64) * ((((3 : Int64) * W) * B) + (((2 : Int64) * H) * A))) + (((4 : Int64) * A) * B)) - (1 : Int64)) / (((4 : Int64) * A) * B))), .second] [(.long (((0 : Int32).toInt64) + (((((500 : Int64) * ((((3 : Int64) * W) * B) + (((2 : Int64) * H) * A))) + (((4 : Int64) * A) * B)) - (1 : Int64)) / (((4 : Int64) * A) * B))))]))
    refine OwnEnds.st (fun t k => XS.l2dS X5.here hx rfl (hb hby d1_70) rfl rfl k) ?_
    show OwnEnds _ _ _ _ _ _ _ (T5.setTop (mkF m 71 #[.val (.int z), .val (.long W), .second, .val (.long A), .second, .val (.long H), .second, .val (.long B), .second, .val (.long ((500 : Int64) * ((((3 : Int64) * W) * B) + (((2 : Int64) * H) * A)))), .second, .val (.long (((4 : Int64) * A) * B)), .second, .val (.long (((((500 : Int64) * ((((3 : Int64) * W) * B) + (((2 : Int64) * H) * A))) + (((4 : Int64) * A) * B)) - (1 : Int64)) / (((4 : Int64) * A) * B))), .second] [(.double (FP.l2d (((0 : Int32).toInt64) + (((((500 : Int64) * ((((3 : Int64) * W) * B) + (((2 : Int64) * H) * A))) + (((4 : Int64) * A) * B)) - (1 : Int64)) / (((4 : Int64) * A) * B)))))]))
    refine OwnEnds.st (fun t k => X5.ldc2DoubleC hx hown (mvT hZ (hw _ (List.mem_of_getElem? (i := 21) rfl))) (g := (mkF m 71 #[.val (.int z), .val (.long W), .second, .val (.long A), .second, .val (.long H), .second, .val (.long B), .second, .val (.long ((500 : Int64) * ((((3 : Int64) * W) * B) + (((2 : Int64) * H) * A)))), .second, .val (.long (((4 : Int64) * A) * B)), .second, .val (.long (((((500 : Int64) * ((((3 : Int64) * W) * B) + (((2 : Int64) * H) * A))) + (((4 : Int64) * A) * B)) - (1 : Int64)) / (((4 : Int64) * A) * B))), .second] [(.double (FP.l2d (((0 : Int32).toInt64) + (((((500 : Int64) * ((((3 : Int64) * W) * B) + (((2 : Int64) * H) * A))) + (((4 : Int64) * A) * B)) - (1 : Int64)) / (((4 : Int64) * A) * B)))))])) rfl (hb hby d1_71) t k) ?_
    show OwnEnds _ _ _ _ _ _ _ (T5.setTop (mkF m 74 #[.val (.int z), .val (.long W), .second, .val (.long A), .second, .val (.long H), .second, .val (.long B), .second, .val (.long ((500 : Int64) * ((((3 : Int64) * W) * B) + (((2 : Int64) * H) * A)))), .second, .val (.long (((4 : Int64) * A) * B)), .second, .val (.long (((((500 : Int64) * ((((3 : Int64) * W) * B) + (((2 : Int64) * H) * A))) + (((4 : Int64) * A) * B)) - (1 : Int64)) / (((4 : Int64) * A) * B))), .second] [(.double (4652007308841189376 : UInt64)), (.double (FP.l2d (((0 : Int32).toInt64) + (((((500 : Int64) * ((((3 : Int64) * W) * B) + (((2 : Int64) * H) * A))) + (((4 : Int64) * A) * B)) - (1 : Int64)) / (((4 : Int64) * A) * B)))))]))
    refine OwnEnds.st (fun t k => XS.ddivS X5.here hx rfl (hb hby d1_74) rfl (own_nn _) rfl k) ?_
    show OwnEnds _ _ _ _ _ _ _ (T5.setTop (mkF m 75 #[.val (.int z), .val (.long W), .second, .val (.long A), .second, .val (.long H), .second, .val (.long B), .second, .val (.long ((500 : Int64) * ((((3 : Int64) * W) * B) + (((2 : Int64) * H) * A)))), .second, .val (.long (((4 : Int64) * A) * B)), .second, .val (.long (((((500 : Int64) * ((((3 : Int64) * W) * B) + (((2 : Int64) * H) * A))) + (((4 : Int64) * A) * B)) - (1 : Int64)) / (((4 : Int64) * A) * B))), .second] [(.double (FP.ddiv (FP.l2d (((0 : Int32).toInt64) + (((((500 : Int64) * ((((3 : Int64) * W) * B) + (((2 : Int64) * H) * A))) + (((4 : Int64) * A) * B)) - (1 : Int64)) / (((4 : Int64) * A) * B)))) (4652007308841189376 : UInt64)))]))
    refine own_retD X5 hx Bd.returns Bd.notSynchronized (hb hby d1_75) ?_ (by decide) (by decide)
    show Q1 Z z W A H B h0 n0 _ T5.heap _
    rw [hh5]
    exact ⟨by rw [own_off0 hz]; rfl, N5, rfl⟩
  · refine OwnEnds.st (fun t k => XS.ifNo X5.here hx rfl (hb hby d1_56) rfl ((if0 _ _).trans (feq (hz : ¬ (z = (0 : Int32)))).1) k) ?_
    show OwnEnds _ _ _ _ _ _ _ (T5.setTop (mkF m 59 #[.val (.int z), .val (.long W), .second, .val (.long A), .second, .val (.long H), .second, .val (.long B), .second, .val (.long ((500 : Int64) * ((((3 : Int64) * W) * B) + (((2 : Int64) * H) * A)))), .second, .val (.long (((4 : Int64) * A) * B)), .second, .val (.long (((((500 : Int64) * ((((3 : Int64) * W) * B) + (((2 : Int64) * H) * A))) + (((4 : Int64) * A) * B)) - (1 : Int64)) / (((4 : Int64) * A) * B))), .second] []))
    refine OwnEnds.st (fun t k => XS.sipush X5.here hx rfl (hb hby d1_59) k) ?_
    show OwnEnds _ _ _ _ _ _ _ (T5.setTop (mkF m 62 #[.val (.int z), .val (.long W), .second, .val (.long A), .second, .val (.long H), .second, .val (.long B), .second, .val (.long ((500 : Int64) * ((((3 : Int64) * W) * B) + (((2 : Int64) * H) * A)))), .second, .val (.long (((4 : Int64) * A) * B)), .second, .val (.long (((((500 : Int64) * ((((3 : Int64) * W) * B) + (((2 : Int64) * H) * A))) + (((4 : Int64) * A) * B)) - (1 : Int64)) / (((4 : Int64) * A) * B))), .second] [(.int (500 : Int32))]))
    refine OwnEnds.st (fun t k => XS.goto X5.here hx rfl (pc0 := 62) (pc' := 66) rfl (hb hby d1_62) (by decide) (by decide) k) ?_
    show OwnEnds _ _ _ _ _ _ _ (T5.setTop (mkF m 66 #[.val (.int z), .val (.long W), .second, .val (.long A), .second, .val (.long H), .second, .val (.long B), .second, .val (.long ((500 : Int64) * ((((3 : Int64) * W) * B) + (((2 : Int64) * H) * A)))), .second, .val (.long (((4 : Int64) * A) * B)), .second, .val (.long (((((500 : Int64) * ((((3 : Int64) * W) * B) + (((2 : Int64) * H) * A))) + (((4 : Int64) * A) * B)) - (1 : Int64)) / (((4 : Int64) * A) * B))), .second] [(.int (500 : Int32))]))
    refine OwnEnds.st (fun t k => XS.i2l X5.here hx rfl (hb hby d1_66) rfl k) ?_
    show OwnEnds _ _ _ _ _ _ _ (T5.setTop (mkF m 67 #[.val (.int z), .val (.long W), .second, .val (.long A), .second, .val (.long H), .second, .val (.long B), .second, .val (.long ((500 : Int64) * ((((3 : Int64) * W) * B) + (((2 : Int64) * H) * A)))), .second, .val (.long (((4 : Int64) * A) * B)), .second, .val (.long (((((500 : Int64) * ((((3 : Int64) * W) * B) + (((2 : Int64) * H) * A))) + (((4 : Int64) * A) * B)) - (1 : Int64)) / (((4 : Int64) * A) * B))), .second] [(.long ((500 : Int32).toInt64))]))
    refine OwnEnds.st (fun t k => XS.lload X5.here hx rfl (hb hby d1_67) rfl k) ?_
    show OwnEnds _ _ _ _ _ _ _ (T5.setTop (mkF m 69 #[.val (.int z), .val (.long W), .second, .val (.long A), .second, .val (.long H), .second, .val (.long B), .second, .val (.long ((500 : Int64) * ((((3 : Int64) * W) * B) + (((2 : Int64) * H) * A)))), .second, .val (.long (((4 : Int64) * A) * B)), .second, .val (.long (((((500 : Int64) * ((((3 : Int64) * W) * B) + (((2 : Int64) * H) * A))) + (((4 : Int64) * A) * B)) - (1 : Int64)) / (((4 : Int64) * A) * B))), .second] [(.long (((((500 : Int64) * ((((3 : Int64) * W) * B) + (((2 : Int64) * H) * A))) + (((4 : Int64) * A) * B)) - (1 : Int64)) / (((4 : Int64) * A) * B))), (.long ((500 : Int32).toInt64))]))
    refine OwnEnds.st (fun t k => XS.ladd X5.here hx rfl (hb hby d1_69) rfl k) ?_
    show OwnEnds _ _ _ _ _ _ _ (T5.setTop (mkF m 70 #[.val (.int z), .val (.long W), .second, .val (.long A), .second, .val (.long H), .second, .val (.long B), .second, .val (.long ((500 : Int64) * ((((3 : Int64) * W) * B) + (((2 : Int64) * H) * A)))), .second, .val (.long (((4 : Int64) * A) * B)), .second, .val (.long (((((500 : Int64) * ((((3 : Int64) * W) * B) + (((2 : Int64) * H) * A))) + (((4 : Int64) * A) * B)) - (1 : Int64)) / (((4 : Int64) * A) * B))), .second] [(.long (((500 : Int32).toInt64) + (((((500 : Int64) * ((((3 : Int64) * W) * B) + (((2 : Int64) * H) * A))) + (((4 : Int64) * A) * B)) - (1 : Int64)) / (((4 : Int64) * A) * B))))]))
    refine OwnEnds.st (fun t k => XS.l2dS X5.here hx rfl (hb hby d1_70) rfl rfl k) ?_
    show OwnEnds _ _ _ _ _ _ _ (T5.setTop (mkF m 71 #[.val (.int z), .val (.long W), .second, .val (.long A), .second, .val (.long H), .second, .val (.long B), .second, .val (.long ((500 : Int64) * ((((3 : Int64) * W) * B) + (((2 : Int64) * H) * A)))), .second, .val (.long (((4 : Int64) * A) * B)), .second, .val (.long (((((500 : Int64) * ((((3 : Int64) * W) * B) + (((2 : Int64) * H) * A))) + (((4 : Int64) * A) * B)) - (1 : Int64)) / (((4 : Int64) * A) * B))), .second] [(.double (FP.l2d (((500 : Int32).toInt64) + (((((500 : Int64) * ((((3 : Int64) * W) * B) + (((2 : Int64) * H) * A))) + (((4 : Int64) * A) * B)) - (1 : Int64)) / (((4 : Int64) * A) * B)))))]))
    refine OwnEnds.st (fun t k => X5.ldc2DoubleC hx hown (mvT hZ (hw _ (List.mem_of_getElem? (i := 21) rfl))) (g := (mkF m 71 #[.val (.int z), .val (.long W), .second, .val (.long A), .second, .val (.long H), .second, .val (.long B), .second, .val (.long ((500 : Int64) * ((((3 : Int64) * W) * B) + (((2 : Int64) * H) * A)))), .second, .val (.long (((4 : Int64) * A) * B)), .second, .val (.long (((((500 : Int64) * ((((3 : Int64) * W) * B) + (((2 : Int64) * H) * A))) + (((4 : Int64) * A) * B)) - (1 : Int64)) / (((4 : Int64) * A) * B))), .second] [(.double (FP.l2d (((500 : Int32).toInt64) + (((((500 : Int64) * ((((3 : Int64) * W) * B) + (((2 : Int64) * H) * A))) + (((4 : Int64) * A) * B)) - (1 : Int64)) / (((4 : Int64) * A) * B)))))])) rfl (hb hby d1_71) t k) ?_
    show OwnEnds _ _ _ _ _ _ _ (T5.setTop (mkF m 74 #[.val (.int z), .val (.long W), .second, .val (.long A), .second, .val (.long H), .second, .val (.long B), .second, .val (.long ((500 : Int64) * ((((3 : Int64) * W) * B) + (((2 : Int64) * H) * A)))), .second, .val (.long (((4 : Int64) * A) * B)), .second, .val (.long (((((500 : Int64) * ((((3 : Int64) * W) * B) + (((2 : Int64) * H) * A))) + (((4 : Int64) * A) * B)) - (1 : Int64)) / (((4 : Int64) * A) * B))), .second] [(.double (4652007308841189376 : UInt64)), (.double (FP.l2d (((500 : Int32).toInt64) + (((((500 : Int64) * ((((3 : Int64) * W) * B) + (((2 : Int64) * H) * A))) + (((4 : Int64) * A) * B)) - (1 : Int64)) / (((4 : Int64) * A) * B)))))]))
    refine OwnEnds.st (fun t k => XS.ddivS X5.here hx rfl (hb hby d1_74) rfl (own_nn _) rfl k) ?_
    show OwnEnds _ _ _ _ _ _ _ (T5.setTop (mkF m 75 #[.val (.int z), .val (.long W), .second, .val (.long A), .second, .val (.long H), .second, .val (.long B), .second, .val (.long ((500 : Int64) * ((((3 : Int64) * W) * B) + (((2 : Int64) * H) * A)))), .second, .val (.long (((4 : Int64) * A) * B)), .second, .val (.long (((((500 : Int64) * ((((3 : Int64) * W) * B) + (((2 : Int64) * H) * A))) + (((4 : Int64) * A) * B)) - (1 : Int64)) / (((4 : Int64) * A) * B))), .second] [(.double (FP.ddiv (FP.l2d (((500 : Int32).toInt64) + (((((500 : Int64) * ((((3 : Int64) * W) * B) + (((2 : Int64) * H) * A))) + (((4 : Int64) * A) * B)) - (1 : Int64)) / (((4 : Int64) * A) * B)))) (4652007308841189376 : UInt64)))]))
    refine own_retD X5 hx Bd.returns Bd.notSynchronized (hb hby d1_75) ?_ (by decide) (by decide)
    show Q1 Z z W A H B h0 n0 _ T5.heap _
    rw [hh5]
    exact ⟨by rw [own_off1 hz]; rfl, N5, rfl⟩
theorem ef_0 (m : MethodId) (x0 : Int64) (x1 : Int64) (x2 : Int64) (x3 : Int64) (x4 : Int32) : entryFrame m #[(.long x0), (.long x1), (.long x2), (.long x3), (.int x4)] maxLocals = mkF m 0 #[.val (.long x0), .second, .val (.long x1), .second, .val (.long x2), .second, .val (.long x3), .second, .val (.int x4), .unset, .unset, .unset, .unset, .unset, .unset, .unset, .unset, .unset, .unset, .unset, .unset, .unset, .unset, .unset, .unset, .unset, .unset, .unset] [] := by first | (simp [entryFrame, mkF, argsToLocals, Value.category, maxLocals]; done) | rfl
def Q0 (Z : State) (q1 : Int64) (q2 : Int64) (q3 : Int64) (q4 : Int64) (p5 : Int32) (h0 : Heap) (n0 : Nat) (v : Option Value) (h : Heap) (L : List Loc) : Prop := v = some (.int 1) ∧ Fr n0 L
set_option maxRecDepth 65536 in
set_option maxHeartbeats 40000000 in
theorem rm0 (l : Launch) (Z : State) (a0 : Array Value) (hw : ∀ d ∈ tables_1, d.before a0 Z = true) (ws : List Jvm.Cond) (q1 : Int64) (q2 : Int64) (q3 : Int64) (q4 : Int64) (p5 : Int32) (h0 : Heap) (n0 : Nat) (Z0 : n0 ≤ h0.size) :
    MetFree l x (head1 (Jvm.Cond.code x code maxLocals ret :: ws) room_1) (fun a U => a = #[(.long q1), (.long q2), (.long q3), (.long q4), (.int p5)] ∧ Z.Warmed39 U.vm ∧ U.heap = h0) (fun _ _ _ _ _ => True) (fun _ U o U' => ∃ v L, o = .returned v ∧ Q0 Z q1 q2 q3 q4 p5 h0 n0 v U'.heap L ∧ FrameEnd U o U' L room_1.cells room_1.slots) := by
  refine MetFree.of_bodySF (plainFor_of_name pn_1) hisR ?_
  intro p e s m args below meth c s₁ Bd hml0 hP hK
  obtain ⟨rfl, hZ, hh⟩ := hP
  have hx := Bd.exec
  have hby := Bd.bytes
  have hml : c.maxLocals = 28 := hml0
  have hown : s.vm.findClass "com/example/equate/equate/mathml/LikenessLikenessPinLaw" = some m.cls := findClass_of_methodNamed Bd.named
  have hnm := (name_of_methodNamed Bd.named Bd.method).1
  have X0 : Stand p l e room_1 s m #[(.long q1), (.long q2), (.long q3), (.long q4), (.int p5)] below meth c s₁ [] 0 0 := Stand.of_body Bd
  have e0 : s₁.heap = h0 := by rw [← hh, Bd.state]; rfl
  have N0 := Fr.nil n0
  show OwnEnds p e below s (Q0 Z q1 q2 q3 q4 p5 h0 n0) room_1.cells room_1.slots (s₁.setTop (entryFrame m #[(.long q1), (.long q2), (.long q3), (.long q4), (.int p5)] maxLocals))
  rw [ef_0]
  show OwnEnds _ _ _ _ _ _ _ (s₁.setTop (mkF m 0 #[.val (.long q1), .second, .val (.long q2), .second, .val (.long q3), .second, .val (.long q4), .second, .val (.int p5), .unset, .unset, .unset, .unset, .unset, .unset, .unset, .unset, .unset, .unset, .unset, .unset, .unset, .unset, .unset, .unset, .unset, .unset, .unset] []))
  refine OwnEnds.st (fun t k => XS.lloadN X0.here hx rfl (hb hby at_0) rfl k) ?_
  show OwnEnds _ _ _ _ _ _ _ (s₁.setTop (mkF m 1 #[.val (.long q1), .second, .val (.long q2), .second, .val (.long q3), .second, .val (.long q4), .second, .val (.int p5), .unset, .unset, .unset, .unset, .unset, .unset, .unset, .unset, .unset, .unset, .unset, .unset, .unset, .unset, .unset, .unset, .unset, .unset, .unset] [(.long q1)]))
  refine OwnEnds.st (fun t k => X0.ldc2Long hx hown (mvT hZ (hw _ (List.mem_of_getElem? (i := 0) rfl))) (g := (mkF m 1 #[.val (.long q1), .second, .val (.long q2), .second, .val (.long q3), .second, .val (.long q4), .second, .val (.int p5), .unset, .unset, .unset, .unset, .unset, .unset, .unset, .unset, .unset, .unset, .unset, .unset, .unset, .unset, .unset, .unset, .unset, .unset, .unset] [(.long q1)])) rfl (hb hby at_1) t k) ?_
  show OwnEnds _ _ _ _ _ _ _ (s₁.setTop (mkF m 4 #[.val (.long q1), .second, .val (.long q2), .second, .val (.long q3), .second, .val (.long q4), .second, .val (.int p5), .unset, .unset, .unset, .unset, .unset, .unset, .unset, .unset, .unset, .unset, .unset, .unset, .unset, .unset, .unset, .unset, .unset, .unset, .unset] [(.long (16777215 : Int64)), (.long q1)]))
  refine OwnEnds.st (fun t k => XS.land X0.here hx rfl (hb hby at_4) rfl k) ?_
  show OwnEnds _ _ _ _ _ _ _ (s₁.setTop (mkF m 5 #[.val (.long q1), .second, .val (.long q2), .second, .val (.long q3), .second, .val (.long q4), .second, .val (.int p5), .unset, .unset, .unset, .unset, .unset, .unset, .unset, .unset, .unset, .unset, .unset, .unset, .unset, .unset, .unset, .unset, .unset, .unset, .unset] [(.long (q1 &&& (16777215 : Int64)))]))
  refine OwnEnds.st (fun t k => XS.lconst X0.here hx rfl (hb hby at_5) k) ?_
  show OwnEnds _ _ _ _ _ _ _ (s₁.setTop (mkF m 6 #[.val (.long q1), .second, .val (.long q2), .second, .val (.long q3), .second, .val (.long q4), .second, .val (.int p5), .unset, .unset, .unset, .unset, .unset, .unset, .unset, .unset, .unset, .unset, .unset, .unset, .unset, .unset, .unset, .unset, .unset, .unset, .unset] [(.long (1 : Int64)), (.long (q1 &&& (16777215 : Int64)))]))
  refine OwnEnds.st (fun t k => XS.ladd X0.here hx rfl (hb hby at_6) rfl k) ?_
  show OwnEnds _ _ _ _ _ _ _ (s₁.setTop (mkF m 7 #[.val (.long q1), .second, .val (.long q2), .second, .val (.long q3), .second, .val (.long q4), .second, .val (.int p5), .unset, .unset, .unset, .unset, .unset, .unset, .unset, .unset, .unset, .unset, .unset, .unset, .unset, .unset, .unset, .unset, .unset, .unset, .unset] [(.long ((q1 &&& (16777215 : Int64)) + (1 : Int64)))]))
  refine OwnEnds.st (fun t k => XS.lstore X0.here hx rfl (hb hby at_7) rfl (l' := #[.val (.long q1), .second, .val (.long q2), .second, .val (.long q3), .second, .val (.long q4), .second, .val (.int p5), .val (.long ((q1 &&& (16777215 : Int64)) + (1 : Int64))), .second, .unset, .unset, .unset, .unset, .unset, .unset, .unset, .unset, .unset, .unset, .unset, .unset, .unset, .unset, .unset, .unset, .unset]) rfl k) ?_
  show OwnEnds _ _ _ _ _ _ _ (s₁.setTop (mkF m 9 #[.val (.long q1), .second, .val (.long q2), .second, .val (.long q3), .second, .val (.long q4), .second, .val (.int p5), .val (.long ((q1 &&& (16777215 : Int64)) + (1 : Int64))), .second, .unset, .unset, .unset, .unset, .unset, .unset, .unset, .unset, .unset, .unset, .unset, .unset, .unset, .unset, .unset, .unset, .unset] []))
  refine OwnEnds.st (fun t k => XS.lloadN X0.here hx rfl (hb hby at_9) rfl k) ?_
  show OwnEnds _ _ _ _ _ _ _ (s₁.setTop (mkF m 10 #[.val (.long q1), .second, .val (.long q2), .second, .val (.long q3), .second, .val (.long q4), .second, .val (.int p5), .val (.long ((q1 &&& (16777215 : Int64)) + (1 : Int64))), .second, .unset, .unset, .unset, .unset, .unset, .unset, .unset, .unset, .unset, .unset, .unset, .unset, .unset, .unset, .unset, .unset, .unset] [(.long q2)]))
  refine OwnEnds.st (fun t k => X0.ldc2Long hx hown (mvT hZ (hw _ (List.mem_of_getElem? (i := 0) rfl))) (g := (mkF m 10 #[.val (.long q1), .second, .val (.long q2), .second, .val (.long q3), .second, .val (.long q4), .second, .val (.int p5), .val (.long ((q1 &&& (16777215 : Int64)) + (1 : Int64))), .second, .unset, .unset, .unset, .unset, .unset, .unset, .unset, .unset, .unset, .unset, .unset, .unset, .unset, .unset, .unset, .unset, .unset] [(.long q2)])) rfl (hb hby at_10) t k) ?_
  show OwnEnds _ _ _ _ _ _ _ (s₁.setTop (mkF m 13 #[.val (.long q1), .second, .val (.long q2), .second, .val (.long q3), .second, .val (.long q4), .second, .val (.int p5), .val (.long ((q1 &&& (16777215 : Int64)) + (1 : Int64))), .second, .unset, .unset, .unset, .unset, .unset, .unset, .unset, .unset, .unset, .unset, .unset, .unset, .unset, .unset, .unset, .unset, .unset] [(.long (16777215 : Int64)), (.long q2)]))
  refine OwnEnds.st (fun t k => XS.land X0.here hx rfl (hb hby at_13) rfl k) ?_
  show OwnEnds _ _ _ _ _ _ _ (s₁.setTop (mkF m 14 #[.val (.long q1), .second, .val (.long q2), .second, .val (.long q3), .second, .val (.long q4), .second, .val (.int p5), .val (.long ((q1 &&& (16777215 : Int64)) + (1 : Int64))), .second, .unset, .unset, .unset, .unset, .unset, .unset, .unset, .unset, .unset, .unset, .unset, .unset, .unset, .unset, .unset, .unset, .unset] [(.long (q2 &&& (16777215 : Int64)))]))
  refine OwnEnds.st (fun t k => X0.ldc2Long hx hown (mvT hZ (hw _ (List.mem_of_getElem? (i := 1) rfl))) (g := (mkF m 14 #[.val (.long q1), .second, .val (.long q2), .second, .val (.long q3), .second, .val (.long q4), .second, .val (.int p5), .val (.long ((q1 &&& (16777215 : Int64)) + (1 : Int64))), .second, .unset, .unset, .unset, .unset, .unset, .unset, .unset, .unset, .unset, .unset, .unset, .unset, .unset, .unset, .unset, .unset, .unset] [(.long (q2 &&& (16777215 : Int64)))])) rfl (hb hby at_14) t k) ?_
  show OwnEnds _ _ _ _ _ _ _ (s₁.setTop (mkF m 17 #[.val (.long q1), .second, .val (.long q2), .second, .val (.long q3), .second, .val (.long q4), .second, .val (.int p5), .val (.long ((q1 &&& (16777215 : Int64)) + (1 : Int64))), .second, .unset, .unset, .unset, .unset, .unset, .unset, .unset, .unset, .unset, .unset, .unset, .unset, .unset, .unset, .unset, .unset, .unset] [(.long (2 : Int64)), (.long (q2 &&& (16777215 : Int64)))]))
  refine OwnEnds.st (fun t k => XS.ladd X0.here hx rfl (hb hby at_17) rfl k) ?_
  show OwnEnds _ _ _ _ _ _ _ (s₁.setTop (mkF m 18 #[.val (.long q1), .second, .val (.long q2), .second, .val (.long q3), .second, .val (.long q4), .second, .val (.int p5), .val (.long ((q1 &&& (16777215 : Int64)) + (1 : Int64))), .second, .unset, .unset, .unset, .unset, .unset, .unset, .unset, .unset, .unset, .unset, .unset, .unset, .unset, .unset, .unset, .unset, .unset] [(.long ((q2 &&& (16777215 : Int64)) + (2 : Int64)))]))
  refine OwnEnds.st (fun t k => XS.lstore X0.here hx rfl (hb hby at_18) rfl (l' := #[.val (.long q1), .second, .val (.long q2), .second, .val (.long q3), .second, .val (.long q4), .second, .val (.int p5), .val (.long ((q1 &&& (16777215 : Int64)) + (1 : Int64))), .second, .val (.long ((q2 &&& (16777215 : Int64)) + (2 : Int64))), .second, .unset, .unset, .unset, .unset, .unset, .unset, .unset, .unset, .unset, .unset, .unset, .unset, .unset, .unset, .unset]) rfl k) ?_
  show OwnEnds _ _ _ _ _ _ _ (s₁.setTop (mkF m 20 #[.val (.long q1), .second, .val (.long q2), .second, .val (.long q3), .second, .val (.long q4), .second, .val (.int p5), .val (.long ((q1 &&& (16777215 : Int64)) + (1 : Int64))), .second, .val (.long ((q2 &&& (16777215 : Int64)) + (2 : Int64))), .second, .unset, .unset, .unset, .unset, .unset, .unset, .unset, .unset, .unset, .unset, .unset, .unset, .unset, .unset, .unset] []))
  obtain ⟨A, e_A⟩ : ∃ z, z = ((q1 &&& (16777215 : Int64)) + (1 : Int64)) := ⟨_, rfl⟩
  rw [← e_A]
  obtain ⟨B, e_B⟩ : ∃ z, z = ((q2 &&& (16777215 : Int64)) + (2 : Int64)) := ⟨_, rfl⟩
  rw [← e_B]
  refine OwnEnds.st (fun t k => XS.lload X0.here hx rfl (hb hby at_20) rfl k) ?_
  show OwnEnds _ _ _ _ _ _ _ (s₁.setTop (mkF m 22 #[.val (.long q1), .second, .val (.long q2), .second, .val (.long q3), .second, .val (.long q4), .second, .val (.int p5), .val (.long A), .second, .val (.long B), .second, .unset, .unset, .unset, .unset, .unset, .unset, .unset, .unset, .unset, .unset, .unset, .unset, .unset, .unset, .unset] [(.long q3)]))
  refine OwnEnds.st (fun t k => X0.ldc2Long hx hown (mvT hZ (hw _ (List.mem_of_getElem? (i := 2) rfl))) (g := (mkF m 22 #[.val (.long q1), .second, .val (.long q2), .second, .val (.long q3), .second, .val (.long q4), .second, .val (.int p5), .val (.long A), .second, .val (.long B), .second, .unset, .unset, .unset, .unset, .unset, .unset, .unset, .unset, .unset, .unset, .unset, .unset, .unset, .unset, .unset] [(.long q3)])) rfl (hb hby at_22) t k) ?_
  show OwnEnds _ _ _ _ _ _ _ (s₁.setTop (mkF m 25 #[.val (.long q1), .second, .val (.long q2), .second, .val (.long q3), .second, .val (.long q4), .second, .val (.int p5), .val (.long A), .second, .val (.long B), .second, .unset, .unset, .unset, .unset, .unset, .unset, .unset, .unset, .unset, .unset, .unset, .unset, .unset, .unset, .unset] [(.long (9223372036854775807 : Int64)), (.long q3)]))
  refine OwnEnds.st (fun t k => XS.land X0.here hx rfl (hb hby at_25) rfl k) ?_
  show OwnEnds _ _ _ _ _ _ _ (s₁.setTop (mkF m 26 #[.val (.long q1), .second, .val (.long q2), .second, .val (.long q3), .second, .val (.long q4), .second, .val (.int p5), .val (.long A), .second, .val (.long B), .second, .unset, .unset, .unset, .unset, .unset, .unset, .unset, .unset, .unset, .unset, .unset, .unset, .unset, .unset, .unset] [(.long (q3 &&& (9223372036854775807 : Int64)))]))
  refine OwnEnds.st (fun t k => XS.lload X0.here hx rfl (hb hby at_26) rfl k) ?_
  show OwnEnds _ _ _ _ _ _ _ (s₁.setTop (mkF m 28 #[.val (.long q1), .second, .val (.long q2), .second, .val (.long q3), .second, .val (.long q4), .second, .val (.int p5), .val (.long A), .second, .val (.long B), .second, .unset, .unset, .unset, .unset, .unset, .unset, .unset, .unset, .unset, .unset, .unset, .unset, .unset, .unset, .unset] [(.long A), (.long (q3 &&& (9223372036854775807 : Int64)))]))
  refine OwnEnds.st (fun t k => XS.lconst X0.here hx rfl (hb hby at_28) k) ?_
  show OwnEnds _ _ _ _ _ _ _ (s₁.setTop (mkF m 29 #[.val (.long q1), .second, .val (.long q2), .second, .val (.long q3), .second, .val (.long q4), .second, .val (.int p5), .val (.long A), .second, .val (.long B), .second, .unset, .unset, .unset, .unset, .unset, .unset, .unset, .unset, .unset, .unset, .unset, .unset, .unset, .unset, .unset] [(.long (1 : Int64)), (.long A), (.long (q3 &&& (9223372036854775807 : Int64)))]))
  refine OwnEnds.st (fun t k => XS.ladd X0.here hx rfl (hb hby at_29) rfl k) ?_
  show OwnEnds _ _ _ _ _ _ _ (s₁.setTop (mkF m 30 #[.val (.long q1), .second, .val (.long q2), .second, .val (.long q3), .second, .val (.long q4), .second, .val (.int p5), .val (.long A), .second, .val (.long B), .second, .unset, .unset, .unset, .unset, .unset, .unset, .unset, .unset, .unset, .unset, .unset, .unset, .unset, .unset, .unset] [(.long (A + (1 : Int64))), (.long (q3 &&& (9223372036854775807 : Int64)))]))
  refine OwnEnds.st (fun t k => XS.lrem X0.here hx rfl (hb hby at_30) rfl (own_nzA e_A) k) ?_
  show OwnEnds _ _ _ _ _ _ _ (s₁.setTop (mkF m 31 #[.val (.long q1), .second, .val (.long q2), .second, .val (.long q3), .second, .val (.long q4), .second, .val (.int p5), .val (.long A), .second, .val (.long B), .second, .unset, .unset, .unset, .unset, .unset, .unset, .unset, .unset, .unset, .unset, .unset, .unset, .unset, .unset, .unset] [(.long ((q3 &&& (9223372036854775807 : Int64)) - ((q3 &&& (9223372036854775807 : Int64)) / (A + (1 : Int64))) * (A + (1 : Int64))))]))
  refine OwnEnds.st (fun t k => XS.lstore X0.here hx rfl (hb hby at_31) rfl (l' := #[.val (.long q1), .second, .val (.long q2), .second, .val (.long q3), .second, .val (.long q4), .second, .val (.int p5), .val (.long A), .second, .val (.long B), .second, .val (.long ((q3 &&& (9223372036854775807 : Int64)) - ((q3 &&& (9223372036854775807 : Int64)) / (A + (1 : Int64))) * (A + (1 : Int64)))), .second, .unset, .unset, .unset, .unset, .unset, .unset, .unset, .unset, .unset, .unset, .unset, .unset, .unset]) rfl k) ?_
  show OwnEnds _ _ _ _ _ _ _ (s₁.setTop (mkF m 33 #[.val (.long q1), .second, .val (.long q2), .second, .val (.long q3), .second, .val (.long q4), .second, .val (.int p5), .val (.long A), .second, .val (.long B), .second, .val (.long ((q3 &&& (9223372036854775807 : Int64)) - ((q3 &&& (9223372036854775807 : Int64)) / (A + (1 : Int64))) * (A + (1 : Int64)))), .second, .unset, .unset, .unset, .unset, .unset, .unset, .unset, .unset, .unset, .unset, .unset, .unset, .unset] []))
  obtain ⟨W, e_W⟩ : ∃ z, z = ((q3 &&& (9223372036854775807 : Int64)) - ((q3 &&& (9223372036854775807 : Int64)) / (A + (1 : Int64))) * (A + (1 : Int64))) := ⟨_, rfl⟩
  rw [← e_W]
  refine OwnEnds.st (fun t k => XS.lload X0.here hx rfl (hb hby at_33) rfl k) ?_
  show OwnEnds _ _ _ _ _ _ _ (s₁.setTop (mkF m 35 #[.val (.long q1), .second, .val (.long q2), .second, .val (.long q3), .second, .val (.long q4), .second, .val (.int p5), .val (.long A), .second, .val (.long B), .second, .val (.long W), .second, .unset, .unset, .unset, .unset, .unset, .unset, .unset, .unset, .unset, .unset, .unset, .unset, .unset] [(.long q4)]))
  refine OwnEnds.st (fun t k => X0.ldc2Long hx hown (mvT hZ (hw _ (List.mem_of_getElem? (i := 2) rfl))) (g := (mkF m 35 #[.val (.long q1), .second, .val (.long q2), .second, .val (.long q3), .second, .val (.long q4), .second, .val (.int p5), .val (.long A), .second, .val (.long B), .second, .val (.long W), .second, .unset, .unset, .unset, .unset, .unset, .unset, .unset, .unset, .unset, .unset, .unset, .unset, .unset] [(.long q4)])) rfl (hb hby at_35) t k) ?_
  show OwnEnds _ _ _ _ _ _ _ (s₁.setTop (mkF m 38 #[.val (.long q1), .second, .val (.long q2), .second, .val (.long q3), .second, .val (.long q4), .second, .val (.int p5), .val (.long A), .second, .val (.long B), .second, .val (.long W), .second, .unset, .unset, .unset, .unset, .unset, .unset, .unset, .unset, .unset, .unset, .unset, .unset, .unset] [(.long (9223372036854775807 : Int64)), (.long q4)]))
  refine OwnEnds.st (fun t k => XS.land X0.here hx rfl (hb hby at_38) rfl k) ?_
  show OwnEnds _ _ _ _ _ _ _ (s₁.setTop (mkF m 39 #[.val (.long q1), .second, .val (.long q2), .second, .val (.long q3), .second, .val (.long q4), .second, .val (.int p5), .val (.long A), .second, .val (.long B), .second, .val (.long W), .second, .unset, .unset, .unset, .unset, .unset, .unset, .unset, .unset, .unset, .unset, .unset, .unset, .unset] [(.long (q4 &&& (9223372036854775807 : Int64)))]))
  refine OwnEnds.st (fun t k => XS.lload X0.here hx rfl (hb hby at_39) rfl k) ?_
  show OwnEnds _ _ _ _ _ _ _ (s₁.setTop (mkF m 41 #[.val (.long q1), .second, .val (.long q2), .second, .val (.long q3), .second, .val (.long q4), .second, .val (.int p5), .val (.long A), .second, .val (.long B), .second, .val (.long W), .second, .unset, .unset, .unset, .unset, .unset, .unset, .unset, .unset, .unset, .unset, .unset, .unset, .unset] [(.long B), (.long (q4 &&& (9223372036854775807 : Int64)))]))
  refine OwnEnds.st (fun t k => X0.ldc2Long hx hown (mvT hZ (hw _ (List.mem_of_getElem? (i := 1) rfl))) (g := (mkF m 41 #[.val (.long q1), .second, .val (.long q2), .second, .val (.long q3), .second, .val (.long q4), .second, .val (.int p5), .val (.long A), .second, .val (.long B), .second, .val (.long W), .second, .unset, .unset, .unset, .unset, .unset, .unset, .unset, .unset, .unset, .unset, .unset, .unset, .unset] [(.long B), (.long (q4 &&& (9223372036854775807 : Int64)))])) rfl (hb hby at_41) t k) ?_
  show OwnEnds _ _ _ _ _ _ _ (s₁.setTop (mkF m 44 #[.val (.long q1), .second, .val (.long q2), .second, .val (.long q3), .second, .val (.long q4), .second, .val (.int p5), .val (.long A), .second, .val (.long B), .second, .val (.long W), .second, .unset, .unset, .unset, .unset, .unset, .unset, .unset, .unset, .unset, .unset, .unset, .unset, .unset] [(.long (2 : Int64)), (.long B), (.long (q4 &&& (9223372036854775807 : Int64)))]))
  refine OwnEnds.st (fun t k => XS.ldiv X0.here hx rfl (hb hby at_44) rfl (by decide) k) ?_
  show OwnEnds _ _ _ _ _ _ _ (s₁.setTop (mkF m 45 #[.val (.long q1), .second, .val (.long q2), .second, .val (.long q3), .second, .val (.long q4), .second, .val (.int p5), .val (.long A), .second, .val (.long B), .second, .val (.long W), .second, .unset, .unset, .unset, .unset, .unset, .unset, .unset, .unset, .unset, .unset, .unset, .unset, .unset] [(.long (B / (2 : Int64))), (.long (q4 &&& (9223372036854775807 : Int64)))]))
  refine OwnEnds.st (fun t k => XS.lrem X0.here hx rfl (hb hby at_45) rfl (own_nzB e_B) k) ?_
  show OwnEnds _ _ _ _ _ _ _ (s₁.setTop (mkF m 46 #[.val (.long q1), .second, .val (.long q2), .second, .val (.long q3), .second, .val (.long q4), .second, .val (.int p5), .val (.long A), .second, .val (.long B), .second, .val (.long W), .second, .unset, .unset, .unset, .unset, .unset, .unset, .unset, .unset, .unset, .unset, .unset, .unset, .unset] [(.long ((q4 &&& (9223372036854775807 : Int64)) - ((q4 &&& (9223372036854775807 : Int64)) / (B / (2 : Int64))) * (B / (2 : Int64))))]))
  refine OwnEnds.st (fun t k => XS.lconst X0.here hx rfl (hb hby at_46) k) ?_
  show OwnEnds _ _ _ _ _ _ _ (s₁.setTop (mkF m 47 #[.val (.long q1), .second, .val (.long q2), .second, .val (.long q3), .second, .val (.long q4), .second, .val (.int p5), .val (.long A), .second, .val (.long B), .second, .val (.long W), .second, .unset, .unset, .unset, .unset, .unset, .unset, .unset, .unset, .unset, .unset, .unset, .unset, .unset] [(.long (1 : Int64)), (.long ((q4 &&& (9223372036854775807 : Int64)) - ((q4 &&& (9223372036854775807 : Int64)) / (B / (2 : Int64))) * (B / (2 : Int64))))]))
  refine OwnEnds.st (fun t k => XS.ladd X0.here hx rfl (hb hby at_47) rfl k) ?_
  show OwnEnds _ _ _ _ _ _ _ (s₁.setTop (mkF m 48 #[.val (.long q1), .second, .val (.long q2), .second, .val (.long q3), .second, .val (.long q4), .second, .val (.int p5), .val (.long A), .second, .val (.long B), .second, .val (.long W), .second, .unset, .unset, .unset, .unset, .unset, .unset, .unset, .unset, .unset, .unset, .unset, .unset, .unset] [(.long (((q4 &&& (9223372036854775807 : Int64)) - ((q4 &&& (9223372036854775807 : Int64)) / (B / (2 : Int64))) * (B / (2 : Int64))) + (1 : Int64)))]))
  refine OwnEnds.st (fun t k => XS.lstore X0.here hx rfl (hb hby at_48) rfl (l' := #[.val (.long q1), .second, .val (.long q2), .second, .val (.long q3), .second, .val (.long q4), .second, .val (.int p5), .val (.long A), .second, .val (.long B), .second, .val (.long W), .second, .val (.long (((q4 &&& (9223372036854775807 : Int64)) - ((q4 &&& (9223372036854775807 : Int64)) / (B / (2 : Int64))) * (B / (2 : Int64))) + (1 : Int64))), .second, .unset, .unset, .unset, .unset, .unset, .unset, .unset, .unset, .unset, .unset, .unset]) rfl k) ?_
  show OwnEnds _ _ _ _ _ _ _ (s₁.setTop (mkF m 50 #[.val (.long q1), .second, .val (.long q2), .second, .val (.long q3), .second, .val (.long q4), .second, .val (.int p5), .val (.long A), .second, .val (.long B), .second, .val (.long W), .second, .val (.long (((q4 &&& (9223372036854775807 : Int64)) - ((q4 &&& (9223372036854775807 : Int64)) / (B / (2 : Int64))) * (B / (2 : Int64))) + (1 : Int64))), .second, .unset, .unset, .unset, .unset, .unset, .unset, .unset, .unset, .unset, .unset, .unset] []))
  obtain ⟨H, e_H⟩ : ∃ z, z = (((q4 &&& (9223372036854775807 : Int64)) - ((q4 &&& (9223372036854775807 : Int64)) / (B / (2 : Int64))) * (B / (2 : Int64))) + (1 : Int64)) := ⟨_, rfl⟩
  rw [← e_H]
  have hB := own_rng e_A e_B e_W e_H
  refine OwnEnds.st (fun t k => XS.iload X0.here hx rfl (hb hby at_50) rfl k) ?_
  show OwnEnds _ _ _ _ _ _ _ (s₁.setTop (mkF m 52 #[.val (.long q1), .second, .val (.long q2), .second, .val (.long q3), .second, .val (.long q4), .second, .val (.int p5), .val (.long A), .second, .val (.long B), .second, .val (.long W), .second, .val (.long H), .second, .unset, .unset, .unset, .unset, .unset, .unset, .unset, .unset, .unset, .unset, .unset] [(.int p5)]))
  refine OwnEnds.st (fun t k => XS.iconst X0.here hx rfl (hb hby at_52) k) ?_
  show OwnEnds _ _ _ _ _ _ _ (s₁.setTop (mkF m 53 #[.val (.long q1), .second, .val (.long q2), .second, .val (.long q3), .second, .val (.long q4), .second, .val (.int p5), .val (.long A), .second, .val (.long B), .second, .val (.long W), .second, .val (.long H), .second, .unset, .unset, .unset, .unset, .unset, .unset, .unset, .unset, .unset, .unset, .unset] [(.int (1 : Int32)), (.int p5)]))
  refine OwnEnds.st (fun t k => XS.iand X0.here hx rfl (hb hby at_53) rfl k) ?_
  show OwnEnds _ _ _ _ _ _ _ (s₁.setTop (mkF m 54 #[.val (.long q1), .second, .val (.long q2), .second, .val (.long q3), .second, .val (.long q4), .second, .val (.int p5), .val (.long A), .second, .val (.long B), .second, .val (.long W), .second, .val (.long H), .second, .unset, .unset, .unset, .unset, .unset, .unset, .unset, .unset, .unset, .unset, .unset] [(.int (p5 &&& (1 : Int32)))]))
  by_cases hs : (p5 &&& (1 : Int32)) = (0 : Int32)
  · refine OwnEnds.st (fun t k => XS.ifYes X0.here hx rfl (pc0 := 54) (pc' := 61) rfl (hb hby at_54) rfl ((if0 _ _).trans (teq (hs : (p5 &&& (1 : Int32)) = (0 : Int32))).1) (by decide) (by decide) k) ?_
    show OwnEnds _ _ _ _ _ _ _ (s₁.setTop (mkF m 61 #[.val (.long q1), .second, .val (.long q2), .second, .val (.long q3), .second, .val (.long q4), .second, .val (.int p5), .val (.long A), .second, .val (.long B), .second, .val (.long W), .second, .val (.long H), .second, .unset, .unset, .unset, .unset, .unset, .unset, .unset, .unset, .unset, .unset, .unset] []))
    refine OwnEnds.st (fun t k => XS.iconst X0.here hx rfl (hb hby at_61) k) ?_
    show OwnEnds _ _ _ _ _ _ _ (s₁.setTop (mkF m 62 #[.val (.long q1), .second, .val (.long q2), .second, .val (.long q3), .second, .val (.long q4), .second, .val (.int p5), .val (.long A), .second, .val (.long B), .second, .val (.long W), .second, .val (.long H), .second, .unset, .unset, .unset, .unset, .unset, .unset, .unset, .unset, .unset, .unset, .unset] [(.int (0 : Int32))]))
    refine OwnEnds.st (fun t k => XS.istore X0.here hx rfl (hb hby at_62) rfl (l' := #[.val (.long q1), .second, .val (.long q2), .second, .val (.long q3), .second, .val (.long q4), .second, .val (.int p5), .val (.long A), .second, .val (.long B), .second, .val (.long W), .second, .val (.long H), .second, .val (.int (0 : Int32)), .unset, .unset, .unset, .unset, .unset, .unset, .unset, .unset, .unset, .unset]) rfl k) ?_
    show OwnEnds _ _ _ _ _ _ _ (s₁.setTop (mkF m 64 #[.val (.long q1), .second, .val (.long q2), .second, .val (.long q3), .second, .val (.long q4), .second, .val (.int p5), .val (.long A), .second, .val (.long B), .second, .val (.long W), .second, .val (.long H), .second, .val (.int (0 : Int32)), .unset, .unset, .unset, .unset, .unset, .unset, .unset, .unset, .unset, .unset] []))
    refine OwnEnds.st (fun t k => XS.iload X0.here hx rfl (hb hby at_64) rfl k) ?_
    show OwnEnds _ _ _ _ _ _ _ (s₁.setTop (mkF m 66 #[.val (.long q1), .second, .val (.long q2), .second, .val (.long q3), .second, .val (.long q4), .second, .val (.int p5), .val (.long A), .second, .val (.long B), .second, .val (.long W), .second, .val (.long H), .second, .val (.int (0 : Int32)), .unset, .unset, .unset, .unset, .unset, .unset, .unset, .unset, .unset, .unset] [(.int (0 : Int32))]))
    refine OwnEnds.st (fun t k => XS.lload X0.here hx rfl (hb hby at_66) rfl k) ?_
    show OwnEnds _ _ _ _ _ _ _ (s₁.setTop (mkF m 68 #[.val (.long q1), .second, .val (.long q2), .second, .val (.long q3), .second, .val (.long q4), .second, .val (.int p5), .val (.long A), .second, .val (.long B), .second, .val (.long W), .second, .val (.long H), .second, .val (.int (0 : Int32)), .unset, .unset, .unset, .unset, .unset, .unset, .unset, .unset, .unset, .unset] [(.long W), (.int (0 : Int32))]))
    refine OwnEnds.st (fun t k => XS.lload X0.here hx rfl (hb hby at_68) rfl k) ?_
    show OwnEnds _ _ _ _ _ _ _ (s₁.setTop (mkF m 70 #[.val (.long q1), .second, .val (.long q2), .second, .val (.long q3), .second, .val (.long q4), .second, .val (.int p5), .val (.long A), .second, .val (.long B), .second, .val (.long W), .second, .val (.long H), .second, .val (.int (0 : Int32)), .unset, .unset, .unset, .unset, .unset, .unset, .unset, .unset, .unset, .unset] [(.long A), (.long W), (.int (0 : Int32))]))
    refine OwnEnds.st (fun t k => XS.lload X0.here hx rfl (hb hby at_70) rfl k) ?_
    show OwnEnds _ _ _ _ _ _ _ (s₁.setTop (mkF m 72 #[.val (.long q1), .second, .val (.long q2), .second, .val (.long q3), .second, .val (.long q4), .second, .val (.int p5), .val (.long A), .second, .val (.long B), .second, .val (.long W), .second, .val (.long H), .second, .val (.int (0 : Int32)), .unset, .unset, .unset, .unset, .unset, .unset, .unset, .unset, .unset, .unset] [(.long H), (.long A), (.long W), (.int (0 : Int32))]))
    refine OwnEnds.st (fun t k => XS.lload X0.here hx rfl (hb hby at_72) rfl k) ?_
    show OwnEnds _ _ _ _ _ _ _ (s₁.setTop (mkF m 74 #[.val (.long q1), .second, .val (.long q2), .second, .val (.long q3), .second, .val (.long q4), .second, .val (.int p5), .val (.long A), .second, .val (.long B), .second, .val (.long W), .second, .val (.long H), .second, .val (.int (0 : Int32)), .unset, .unset, .unset, .unset, .unset, .unset, .unset, .unset, .unset, .unset] [(.long B), (.long H), (.long A), (.long W), (.int (0 : Int32))]))
    obtain ⟨_, _, ⟨T1, L1, k1, n1⟩, -, X1, ⟨Lc1, hQ1, l1, y1, z1⟩, st1⟩ := Jvm.LawKit.callS X0 hx (y := (⟨"com/example/equate/equate/mathml/Likeness", "likeness", "(ZJJJJ)D"⟩ : MethodName)) hown (mvT hZ (hw _ (List.mem_of_getElem? (i := 3) rfl))) (mvT hZ (hw _ (List.mem_of_getElem? (i := 4) rfl))) (mvT hZ (hw _ (List.mem_of_getElem? (i := 5) rfl))) (mvT hZ (hw _ (List.mem_of_getElem? (i := 6) rfl))) (by decide) (backOf (W := 0) (rm1 l Z a0 hw [] (0 : Int32) W A H B h0 n0 Z0 hB) hZ (hw _ (List.mem_of_getElem? (i := 6) rfl)) (hw _ (List.mem_of_getElem? (i := 5) rfl)) (by decide) (by decide)) (g := (mkF m 74 #[.val (.long q1), .second, .val (.long q2), .second, .val (.long q3), .second, .val (.long q4), .second, .val (.int p5), .val (.long A), .second, .val (.long B), .second, .val (.long W), .second, .val (.long H), .second, .val (.int (0 : Int32)), .unset, .unset, .unset, .unset, .unset, .unset, .unset, .unset, .unset, .unset] [(.long B), (.long H), (.long A), (.long W), (.int (0 : Int32))])) rfl (by rw [hml]; rfl) (argsL := [(.int (0 : Int32)), (.long W), (.long A), (.long H), (.long B)]) (rest := []) (lenOf pd_2 rfl) rfl (by show 2 * 0 + _ ≤ _; exact Nat.le_of_eq rfl) (hb hby at_74) (fun _ _ => ⟨rfl, e0, (by decide : 0 + 0 ≤ _), (by decide : 0 + 0 ≤ _)⟩)
    dsimp only [Pt.U, Pt.locs, Pt.cells, Pt.slots] at X1 l1 y1 z1 st1 hQ1
    subst l1 y1 z1
    obtain ⟨rfl, N1q, hh1⟩ := hQ1
    have N1 := Fr.app N0 N1q
    refine OwnEnds.st st1 ?_
    show OwnEnds _ _ _ _ _ _ _ (T1.setTop (mkF m 77 #[.val (.long q1), .second, .val (.long q2), .second, .val (.long q3), .second, .val (.long q4), .second, .val (.int p5), .val (.long A), .second, .val (.long B), .second, .val (.long W), .second, .val (.long H), .second, .val (.int (0 : Int32)), .unset, .unset, .unset, .unset, .unset, .unset, .unset, .unset, .unset, .unset] [(.double (own_r (own_off (0 : Int32) + own_k W A H B)))]))
    obtain ⟨off, e_off⟩ : ∃ z, z = own_off (0 : Int32) := ⟨_, rfl⟩
    have ho : off.toInt = 0 ∨ off.toInt = 500 := by rw [e_off]; decide
    obtain ⟨hn1, hn2, hn3⟩ := own_n hB ho
    rw [← e_off]
    obtain ⟨n, e_n⟩ : ∃ z, z = off + own_k W A H B := ⟨_, rfl⟩
    rw [← e_n] at hn1 hn2 hn3 ⊢
    show OwnEnds _ _ _ _ _ _ _ (T1.setTop (mkF m 77 #[.val (.long q1), .second, .val (.long q2), .second, .val (.long q3), .second, .val (.long q4), .second, .val (.int p5), .val (.long A), .second, .val (.long B), .second, .val (.long W), .second, .val (.long H), .second, .val (.int (0 : Int32)), .unset, .unset, .unset, .unset, .unset, .unset, .unset, .unset, .unset, .unset] [(.double (own_r n))]))
    refine OwnEnds.st (fun t k => XS.dstore X1.here hx rfl (hb hby at_77) rfl (l' := #[.val (.long q1), .second, .val (.long q2), .second, .val (.long q3), .second, .val (.long q4), .second, .val (.int p5), .val (.long A), .second, .val (.long B), .second, .val (.long W), .second, .val (.long H), .second, .val (.int (0 : Int32)), .val (.double (own_r n)), .second, .unset, .unset, .unset, .unset, .unset, .unset, .unset, .unset]) rfl k) ?_
    show OwnEnds _ _ _ _ _ _ _ (T1.setTop (mkF m 79 #[.val (.long q1), .second, .val (.long q2), .second, .val (.long q3), .second, .val (.long q4), .second, .val (.int p5), .val (.long A), .second, .val (.long B), .second, .val (.long W), .second, .val (.long H), .second, .val (.int (0 : Int32)), .val (.double (own_r n)), .second, .unset, .unset, .unset, .unset, .unset, .unset, .unset, .unset] []))
    refine OwnEnds.st (fun t k => XS.dload X1.here hx rfl (hb hby at_79) rfl k) ?_
    show OwnEnds _ _ _ _ _ _ _ (T1.setTop (mkF m 81 #[.val (.long q1), .second, .val (.long q2), .second, .val (.long q3), .second, .val (.long q4), .second, .val (.int p5), .val (.long A), .second, .val (.long B), .second, .val (.long W), .second, .val (.long H), .second, .val (.int (0 : Int32)), .val (.double (own_r n)), .second, .unset, .unset, .unset, .unset, .unset, .unset, .unset, .unset] [(.double (own_r n))]))
    refine OwnEnds.st (fun t k => XS.dconst0 X1.here hx rfl (hb hby at_81) rfl k) ?_
    show OwnEnds _ _ _ _ _ _ _ (T1.setTop (mkF m 82 #[.val (.long q1), .second, .val (.long q2), .second, .val (.long q3), .second, .val (.long q4), .second, .val (.int p5), .val (.long A), .second, .val (.long B), .second, .val (.long W), .second, .val (.long H), .second, .val (.int (0 : Int32)), .val (.double (own_r n)), .second, .unset, .unset, .unset, .unset, .unset, .unset, .unset, .unset] [(.double (0 : UInt64)), (.double (own_r n))]))
    refine OwnEnds.st (fun t k => XS.dcmpS X1.here hx rfl (hb hby at_82) rfl (own_chk hn1 hn2).1 k) ?_
    show OwnEnds _ _ _ _ _ _ _ (T1.setTop (mkF m 83 #[.val (.long q1), .second, .val (.long q2), .second, .val (.long q3), .second, .val (.long q4), .second, .val (.int p5), .val (.long A), .second, .val (.long B), .second, .val (.long W), .second, .val (.long H), .second, .val (.int (0 : Int32)), .val (.double (own_r n)), .second, .unset, .unset, .unset, .unset, .unset, .unset, .unset, .unset] [(.int (1 : Int32))]))
    refine OwnEnds.st (fun t k => XS.ifNo X1.here hx rfl (hb hby at_83) rfl ((if0 _ _).trans (flt ((by decide) : ¬ ((1 : Int32) < (0 : Int32)))).1) k) ?_
    show OwnEnds _ _ _ _ _ _ _ (T1.setTop (mkF m 86 #[.val (.long q1), .second, .val (.long q2), .second, .val (.long q3), .second, .val (.long q4), .second, .val (.int p5), .val (.long A), .second, .val (.long B), .second, .val (.long W), .second, .val (.long H), .second, .val (.int (0 : Int32)), .val (.double (own_r n)), .second, .unset, .unset, .unset, .unset, .unset, .unset, .unset, .unset] []))
    refine OwnEnds.st (fun t k => XS.dload X1.here hx rfl (hb hby at_86) rfl k) ?_
    show OwnEnds _ _ _ _ _ _ _ (T1.setTop (mkF m 88 #[.val (.long q1), .second, .val (.long q2), .second, .val (.long q3), .second, .val (.long q4), .second, .val (.int p5), .val (.long A), .second, .val (.long B), .second, .val (.long W), .second, .val (.long H), .second, .val (.int (0 : Int32)), .val (.double (own_r n)), .second, .unset, .unset, .unset, .unset, .unset, .unset, .unset, .unset] [(.double (own_r n))]))
    refine OwnEnds.st (fun t k => X1.ldc2DoubleC hx hown (mvT hZ (hw _ (List.mem_of_getElem? (i := 22) rfl))) (g := (mkF m 88 #[.val (.long q1), .second, .val (.long q2), .second, .val (.long q3), .second, .val (.long q4), .second, .val (.int p5), .val (.long A), .second, .val (.long B), .second, .val (.long W), .second, .val (.long H), .second, .val (.int (0 : Int32)), .val (.double (own_r n)), .second, .unset, .unset, .unset, .unset, .unset, .unset, .unset, .unset] [(.double (own_r n))])) rfl (hb hby at_88) t k) ?_
    show OwnEnds _ _ _ _ _ _ _ (T1.setTop (mkF m 91 #[.val (.long q1), .second, .val (.long q2), .second, .val (.long q3), .second, .val (.long q4), .second, .val (.int p5), .val (.long A), .second, .val (.long B), .second, .val (.long W), .second, .val (.long H), .second, .val (.int (0 : Int32)), .val (.double (own_r n)), .second, .unset, .unset, .unset, .unset, .unset, .unset, .unset, .unset] [(.double (4611686018427387904 : UInt64)), (.double (own_r n))]))
    refine OwnEnds.st (fun t k => XS.dcmpS X1.here hx rfl (hb hby at_91) rfl (own_chk hn1 hn2).2.1 k) ?_
    show OwnEnds _ _ _ _ _ _ _ (T1.setTop (mkF m 92 #[.val (.long q1), .second, .val (.long q2), .second, .val (.long q3), .second, .val (.long q4), .second, .val (.int p5), .val (.long A), .second, .val (.long B), .second, .val (.long W), .second, .val (.long H), .second, .val (.int (0 : Int32)), .val (.double (own_r n)), .second, .unset, .unset, .unset, .unset, .unset, .unset, .unset, .unset] [(.int (-1 : Int32))]))
    refine OwnEnds.st (fun t k => XS.ifYes X1.here hx rfl (pc0 := 92) (pc' := 97) rfl (hb hby at_92) rfl ((if0 _ _).trans (flt ((by decide) : ¬ ((0 : Int32) < (-1 : Int32)))).2.2.2) (by decide) (by decide) k) ?_
    show OwnEnds _ _ _ _ _ _ _ (T1.setTop (mkF m 97 #[.val (.long q1), .second, .val (.long q2), .second, .val (.long q3), .second, .val (.long q4), .second, .val (.int p5), .val (.long A), .second, .val (.long B), .second, .val (.long W), .second, .val (.long H), .second, .val (.int (0 : Int32)), .val (.double (own_r n)), .second, .unset, .unset, .unset, .unset, .unset, .unset, .unset, .unset] []))
    refine OwnEnds.st (fun t k => XS.dload X1.here hx rfl (hb hby at_97) rfl k) ?_
    show OwnEnds _ _ _ _ _ _ _ (T1.setTop (mkF m 99 #[.val (.long q1), .second, .val (.long q2), .second, .val (.long q3), .second, .val (.long q4), .second, .val (.int p5), .val (.long A), .second, .val (.long B), .second, .val (.long W), .second, .val (.long H), .second, .val (.int (0 : Int32)), .val (.double (own_r n)), .second, .unset, .unset, .unset, .unset, .unset, .unset, .unset, .unset] [(.double (own_r n))]))
    refine OwnEnds.st (fun t k => X1.ldc2DoubleC hx hown (mvT hZ (hw _ (List.mem_of_getElem? (i := 23) rfl))) (g := (mkF m 99 #[.val (.long q1), .second, .val (.long q2), .second, .val (.long q3), .second, .val (.long q4), .second, .val (.int p5), .val (.long A), .second, .val (.long B), .second, .val (.long W), .second, .val (.long H), .second, .val (.int (0 : Int32)), .val (.double (own_r n)), .second, .unset, .unset, .unset, .unset, .unset, .unset, .unset, .unset] [(.double (own_r n))])) rfl (hb hby at_99) t k) ?_
    show OwnEnds _ _ _ _ _ _ _ (T1.setTop (mkF m 102 #[.val (.long q1), .second, .val (.long q2), .second, .val (.long q3), .second, .val (.long q4), .second, .val (.int p5), .val (.long A), .second, .val (.long B), .second, .val (.long W), .second, .val (.long H), .second, .val (.int (0 : Int32)), .val (.double (own_r n)), .second, .unset, .unset, .unset, .unset, .unset, .unset, .unset, .unset] [(.double (4652007308841189376 : UInt64)), (.double (own_r n))]))
    refine OwnEnds.st (fun t k => XS.dmulS X1.here hx rfl (hb hby at_102) rfl (own_chk hn1 hn2).2.2.1 rfl k) ?_
    show OwnEnds _ _ _ _ _ _ _ (T1.setTop (mkF m 103 #[.val (.long q1), .second, .val (.long q2), .second, .val (.long q3), .second, .val (.long q4), .second, .val (.int p5), .val (.long A), .second, .val (.long B), .second, .val (.long W), .second, .val (.long H), .second, .val (.int (0 : Int32)), .val (.double (own_r n)), .second, .unset, .unset, .unset, .unset, .unset, .unset, .unset, .unset] [(.double (FP.dmul (own_r n) (4652007308841189376 : UInt64)))]))
    refine OwnEnds.st (fun t k => X1.ldc2DoubleC hx hown (mvT hZ (hw _ (List.mem_of_getElem? (i := 24) rfl))) (g := (mkF m 103 #[.val (.long q1), .second, .val (.long q2), .second, .val (.long q3), .second, .val (.long q4), .second, .val (.int p5), .val (.long A), .second, .val (.long B), .second, .val (.long W), .second, .val (.long H), .second, .val (.int (0 : Int32)), .val (.double (own_r n)), .second, .unset, .unset, .unset, .unset, .unset, .unset, .unset, .unset] [(.double (FP.dmul (own_r n) (4652007308841189376 : UInt64)))])) rfl (hb hby at_103) t k) ?_
    show OwnEnds _ _ _ _ _ _ _ (T1.setTop (mkF m 106 #[.val (.long q1), .second, .val (.long q2), .second, .val (.long q3), .second, .val (.long q4), .second, .val (.int p5), .val (.long A), .second, .val (.long B), .second, .val (.long W), .second, .val (.long H), .second, .val (.int (0 : Int32)), .val (.double (own_r n)), .second, .unset, .unset, .unset, .unset, .unset, .unset, .unset, .unset] [(.double (4602678819172646912 : UInt64)), (.double (FP.dmul (own_r n) (4652007308841189376 : UInt64)))]))
    refine OwnEnds.st (fun t k => XS.daddS X1.here hx rfl (hb hby at_106) rfl (own_chk hn1 hn2).2.2.2.1 rfl k) ?_
    show OwnEnds _ _ _ _ _ _ _ (T1.setTop (mkF m 107 #[.val (.long q1), .second, .val (.long q2), .second, .val (.long q3), .second, .val (.long q4), .second, .val (.int p5), .val (.long A), .second, .val (.long B), .second, .val (.long W), .second, .val (.long H), .second, .val (.int (0 : Int32)), .val (.double (own_r n)), .second, .unset, .unset, .unset, .unset, .unset, .unset, .unset, .unset] [(.double (FP.dadd (FP.dmul (own_r n) (4652007308841189376 : UInt64)) (4602678819172646912 : UInt64)))]))
    refine OwnEnds.st (fun t k => XS.d2lS X1.here hx rfl (hb hby at_107) rfl (own_chk hn1 hn2).2.2.2.2 k) ?_
    show OwnEnds _ _ _ _ _ _ _ (T1.setTop (mkF m 108 #[.val (.long q1), .second, .val (.long q2), .second, .val (.long q3), .second, .val (.long q4), .second, .val (.int p5), .val (.long A), .second, .val (.long B), .second, .val (.long W), .second, .val (.long H), .second, .val (.int (0 : Int32)), .val (.double (own_r n)), .second, .unset, .unset, .unset, .unset, .unset, .unset, .unset, .unset] [(.long n)]))
    refine OwnEnds.st (fun t k => XS.lstore X1.here hx rfl (hb hby at_108) rfl (l' := #[.val (.long q1), .second, .val (.long q2), .second, .val (.long q3), .second, .val (.long q4), .second, .val (.int p5), .val (.long A), .second, .val (.long B), .second, .val (.long W), .second, .val (.long H), .second, .val (.int (0 : Int32)), .val (.double (own_r n)), .second, .val (.long n), .second, .unset, .unset, .unset, .unset, .unset, .unset]) rfl k) ?_
    show OwnEnds _ _ _ _ _ _ _ (T1.setTop (mkF m 110 #[.val (.long q1), .second, .val (.long q2), .second, .val (.long q3), .second, .val (.long q4), .second, .val (.int p5), .val (.long A), .second, .val (.long B), .second, .val (.long W), .second, .val (.long H), .second, .val (.int (0 : Int32)), .val (.double (own_r n)), .second, .val (.long n), .second, .unset, .unset, .unset, .unset, .unset, .unset] []))
    refine OwnEnds.st (fun t k => XS.dload X1.here hx rfl (hb hby at_110) rfl k) ?_
    show OwnEnds _ _ _ _ _ _ _ (T1.setTop (mkF m 112 #[.val (.long q1), .second, .val (.long q2), .second, .val (.long q3), .second, .val (.long q4), .second, .val (.int p5), .val (.long A), .second, .val (.long B), .second, .val (.long W), .second, .val (.long H), .second, .val (.int (0 : Int32)), .val (.double (own_r n)), .second, .val (.long n), .second, .unset, .unset, .unset, .unset, .unset, .unset] [(.double (own_r n))]))
    refine OwnEnds.st (fun t k => XS.lload X1.here hx rfl (hb hby at_112) rfl k) ?_
    show OwnEnds _ _ _ _ _ _ _ (T1.setTop (mkF m 114 #[.val (.long q1), .second, .val (.long q2), .second, .val (.long q3), .second, .val (.long q4), .second, .val (.int p5), .val (.long A), .second, .val (.long B), .second, .val (.long W), .second, .val (.long H), .second, .val (.int (0 : Int32)), .val (.double (own_r n)), .second, .val (.long n), .second, .unset, .unset, .unset, .unset, .unset, .unset] [(.long n), (.double (own_r n))]))
    refine OwnEnds.st (fun t k => XS.l2dS X1.here hx rfl (hb hby at_114) rfl rfl k) ?_
    show OwnEnds _ _ _ _ _ _ _ (T1.setTop (mkF m 115 #[.val (.long q1), .second, .val (.long q2), .second, .val (.long q3), .second, .val (.long q4), .second, .val (.int p5), .val (.long A), .second, .val (.long B), .second, .val (.long W), .second, .val (.long H), .second, .val (.int (0 : Int32)), .val (.double (own_r n)), .second, .val (.long n), .second, .unset, .unset, .unset, .unset, .unset, .unset] [(.double (FP.l2d n)), (.double (own_r n))]))
    refine OwnEnds.st (fun t k => X1.ldc2DoubleC hx hown (mvT hZ (hw _ (List.mem_of_getElem? (i := 23) rfl))) (g := (mkF m 115 #[.val (.long q1), .second, .val (.long q2), .second, .val (.long q3), .second, .val (.long q4), .second, .val (.int p5), .val (.long A), .second, .val (.long B), .second, .val (.long W), .second, .val (.long H), .second, .val (.int (0 : Int32)), .val (.double (own_r n)), .second, .val (.long n), .second, .unset, .unset, .unset, .unset, .unset, .unset] [(.double (FP.l2d n)), (.double (own_r n))])) rfl (hb hby at_115) t k) ?_
    show OwnEnds _ _ _ _ _ _ _ (T1.setTop (mkF m 118 #[.val (.long q1), .second, .val (.long q2), .second, .val (.long q3), .second, .val (.long q4), .second, .val (.int p5), .val (.long A), .second, .val (.long B), .second, .val (.long W), .second, .val (.long H), .second, .val (.int (0 : Int32)), .val (.double (own_r n)), .second, .val (.long n), .second, .unset, .unset, .unset, .unset, .unset, .unset] [(.double (4652007308841189376 : UInt64)), (.double (FP.l2d n)), (.double (own_r n))]))
    refine OwnEnds.st (fun t k => XS.ddivS X1.here hx rfl (hb hby at_118) rfl (own_nn n) rfl k) ?_
    show OwnEnds _ _ _ _ _ _ _ (T1.setTop (mkF m 119 #[.val (.long q1), .second, .val (.long q2), .second, .val (.long q3), .second, .val (.long q4), .second, .val (.int p5), .val (.long A), .second, .val (.long B), .second, .val (.long W), .second, .val (.long H), .second, .val (.int (0 : Int32)), .val (.double (own_r n)), .second, .val (.long n), .second, .unset, .unset, .unset, .unset, .unset, .unset] [(.double (FP.ddiv (FP.l2d n) (4652007308841189376 : UInt64))), (.double (own_r n))]))
    refine OwnEnds.st (fun t k => XS.dcmpS X1.here hx rfl (hb hby at_119) rfl (own_rr n) k) ?_
    show OwnEnds _ _ _ _ _ _ _ (T1.setTop (mkF m 120 #[.val (.long q1), .second, .val (.long q2), .second, .val (.long q3), .second, .val (.long q4), .second, .val (.int p5), .val (.long A), .second, .val (.long B), .second, .val (.long W), .second, .val (.long H), .second, .val (.int (0 : Int32)), .val (.double (own_r n)), .second, .val (.long n), .second, .unset, .unset, .unset, .unset, .unset, .unset] [(.int (0 : Int32))]))
    refine OwnEnds.st (fun t k => XS.ifYes X1.here hx rfl (pc0 := 120) (pc' := 125) rfl (hb hby at_120) rfl ((if0 _ _).trans (teq (rfl : (0 : Int32) = (0 : Int32))).1) (by decide) (by decide) k) ?_
    show OwnEnds _ _ _ _ _ _ _ (T1.setTop (mkF m 125 #[.val (.long q1), .second, .val (.long q2), .second, .val (.long q3), .second, .val (.long q4), .second, .val (.int p5), .val (.long A), .second, .val (.long B), .second, .val (.long W), .second, .val (.long H), .second, .val (.int (0 : Int32)), .val (.double (own_r n)), .second, .val (.long n), .second, .unset, .unset, .unset, .unset, .unset, .unset] []))
    refine OwnEnds.st (fun t k => XS.lload X1.here hx rfl (hb hby at_125) rfl k) ?_
    show OwnEnds _ _ _ _ _ _ _ (T1.setTop (mkF m 127 #[.val (.long q1), .second, .val (.long q2), .second, .val (.long q3), .second, .val (.long q4), .second, .val (.int p5), .val (.long A), .second, .val (.long B), .second, .val (.long W), .second, .val (.long H), .second, .val (.int (0 : Int32)), .val (.double (own_r n)), .second, .val (.long n), .second, .unset, .unset, .unset, .unset, .unset, .unset] [(.long n)]))
    refine OwnEnds.st (fun t k => XS.iload X1.here hx rfl (hb hby at_127) rfl k) ?_
    show OwnEnds _ _ _ _ _ _ _ (T1.setTop (mkF m 129 #[.val (.long q1), .second, .val (.long q2), .second, .val (.long q3), .second, .val (.long q4), .second, .val (.int p5), .val (.long A), .second, .val (.long B), .second, .val (.long W), .second, .val (.long H), .second, .val (.int (0 : Int32)), .val (.double (own_r n)), .second, .val (.long n), .second, .unset, .unset, .unset, .unset, .unset, .unset] [(.int (0 : Int32)), (.long n)]))
    refine OwnEnds.st (fun t k => XS.ifYes X1.here hx rfl (pc0 := 129) (pc' := 138) rfl (hb hby at_129) rfl ((if0 _ _).trans (teq (rfl : (0 : Int32) = (0 : Int32))).1) (by decide) (by decide) k) ?_
    show OwnEnds _ _ _ _ _ _ _ (T1.setTop (mkF m 138 #[.val (.long q1), .second, .val (.long q2), .second, .val (.long q3), .second, .val (.long q4), .second, .val (.int p5), .val (.long A), .second, .val (.long B), .second, .val (.long W), .second, .val (.long H), .second, .val (.int (0 : Int32)), .val (.double (own_r n)), .second, .val (.long n), .second, .unset, .unset, .unset, .unset, .unset, .unset] [(.long n)]))
    refine OwnEnds.st (fun t k => XS.lconst X1.here hx rfl (hb hby at_138) k) ?_
    show OwnEnds _ _ _ _ _ _ _ (T1.setTop (mkF m 139 #[.val (.long q1), .second, .val (.long q2), .second, .val (.long q3), .second, .val (.long q4), .second, .val (.int p5), .val (.long A), .second, .val (.long B), .second, .val (.long W), .second, .val (.long H), .second, .val (.int (0 : Int32)), .val (.double (own_r n)), .second, .val (.long n), .second, .unset, .unset, .unset, .unset, .unset, .unset] [(.long (0 : Int64)), (.long n)]))
    refine OwnEnds.st (fun t k => XS.lsub X1.here hx rfl (hb hby at_139) rfl k) ?_
    show OwnEnds _ _ _ _ _ _ _ (T1.setTop (mkF m 140 #[.val (.long q1), .second, .val (.long q2), .second, .val (.long q3), .second, .val (.long q4), .second, .val (.int p5), .val (.long A), .second, .val (.long B), .second, .val (.long W), .second, .val (.long H), .second, .val (.int (0 : Int32)), .val (.double (own_r n)), .second, .val (.long n), .second, .unset, .unset, .unset, .unset, .unset, .unset] [(.long (n - (0 : Int64)))]))
    refine OwnEnds.st (fun t k => XS.lstore X1.here hx rfl (hb hby at_140) rfl (l' := #[.val (.long q1), .second, .val (.long q2), .second, .val (.long q3), .second, .val (.long q4), .second, .val (.int p5), .val (.long A), .second, .val (.long B), .second, .val (.long W), .second, .val (.long H), .second, .val (.int (0 : Int32)), .val (.double (own_r n)), .second, .val (.long n), .second, .val (.long (n - (0 : Int64))), .second, .unset, .unset, .unset, .unset]) rfl k) ?_
    show OwnEnds _ _ _ _ _ _ _ (T1.setTop (mkF m 142 #[.val (.long q1), .second, .val (.long q2), .second, .val (.long q3), .second, .val (.long q4), .second, .val (.int p5), .val (.long A), .second, .val (.long B), .second, .val (.long W), .second, .val (.long H), .second, .val (.int (0 : Int32)), .val (.double (own_r n)), .second, .val (.long n), .second, .val (.long (n - (0 : Int64))), .second, .unset, .unset, .unset, .unset] []))
    have hk : (n - (0 : Int64)) = own_k W A H B := by rw [← hn3, e_off]; rfl
    rw [hk]
    show OwnEnds _ _ _ _ _ _ _ (T1.setTop (mkF m 142 #[.val (.long q1), .second, .val (.long q2), .second, .val (.long q3), .second, .val (.long q4), .second, .val (.int p5), .val (.long A), .second, .val (.long B), .second, .val (.long W), .second, .val (.long H), .second, .val (.int (0 : Int32)), .val (.double (own_r n)), .second, .val (.long n), .second, .val (.long (own_k W A H B)), .second, .unset, .unset, .unset, .unset] []))
    refine OwnEnds.st (fun t k => XS.lload X1.here hx rfl (hb hby at_142) rfl k) ?_
    show OwnEnds _ _ _ _ _ _ _ (T1.setTop (mkF m 144 #[.val (.long q1), .second, .val (.long q2), .second, .val (.long q3), .second, .val (.long q4), .second, .val (.int p5), .val (.long A), .second, .val (.long B), .second, .val (.long W), .second, .val (.long H), .second, .val (.int (0 : Int32)), .val (.double (own_r n)), .second, .val (.long n), .second, .val (.long (own_k W A H B)), .second, .unset, .unset, .unset, .unset] [(.long (own_k W A H B))]))
    refine OwnEnds.st (fun t k => XS.lconst X1.here hx rfl (hb hby at_144) k) ?_
    show OwnEnds _ _ _ _ _ _ _ (T1.setTop (mkF m 145 #[.val (.long q1), .second, .val (.long q2), .second, .val (.long q3), .second, .val (.long q4), .second, .val (.int p5), .val (.long A), .second, .val (.long B), .second, .val (.long W), .second, .val (.long H), .second, .val (.int (0 : Int32)), .val (.double (own_r n)), .second, .val (.long n), .second, .val (.long (own_k W A H B)), .second, .unset, .unset, .unset, .unset] [(.long (1 : Int64)), (.long (own_k W A H B))]))
    refine OwnEnds.st (fun t k => XS.lcmp X1.here hx rfl (hb hby at_145) rfl k) ?_
    show OwnEnds _ _ _ _ _ _ _ (T1.setTop (mkF m 146 #[.val (.long q1), .second, .val (.long q2), .second, .val (.long q3), .second, .val (.long q4), .second, .val (.int p5), .val (.long A), .second, .val (.long B), .second, .val (.long W), .second, .val (.long H), .second, .val (.int (0 : Int32)), .val (.double (own_r n)), .second, .val (.long n), .second, .val (.long (own_k W A H B)), .second, .unset, .unset, .unset, .unset] [(.int (lcmpW (own_k W A H B) (1 : Int64)))]))
    refine OwnEnds.st (fun t k => XS.ifNo X1.here hx rfl (hb hby at_146) rfl ((if0 _ _).trans (flt (own_lcge (by rw [Int64.lt_iff_toInt_lt]; have q := (own_kk hB).1; show ¬ _ < (1 : Int); omega) : ¬ ((lcmpW (own_k W A H B) (1 : Int64)) < (0 : Int32)))).1) k) ?_
    show OwnEnds _ _ _ _ _ _ _ (T1.setTop (mkF m 149 #[.val (.long q1), .second, .val (.long q2), .second, .val (.long q3), .second, .val (.long q4), .second, .val (.int p5), .val (.long A), .second, .val (.long B), .second, .val (.long W), .second, .val (.long H), .second, .val (.int (0 : Int32)), .val (.double (own_r n)), .second, .val (.long n), .second, .val (.long (own_k W A H B)), .second, .unset, .unset, .unset, .unset] []))
    refine OwnEnds.st (fun t k => XS.lload X1.here hx rfl (hb hby at_149) rfl k) ?_
    show OwnEnds _ _ _ _ _ _ _ (T1.setTop (mkF m 151 #[.val (.long q1), .second, .val (.long q2), .second, .val (.long q3), .second, .val (.long q4), .second, .val (.int p5), .val (.long A), .second, .val (.long B), .second, .val (.long W), .second, .val (.long H), .second, .val (.int (0 : Int32)), .val (.double (own_r n)), .second, .val (.long n), .second, .val (.long (own_k W A H B)), .second, .unset, .unset, .unset, .unset] [(.long (own_k W A H B))]))
    refine OwnEnds.st (fun t k => X1.ldc2Long hx hown (mvT hZ (hw _ (List.mem_of_getElem? (i := 25) rfl))) (g := (mkF m 151 #[.val (.long q1), .second, .val (.long q2), .second, .val (.long q3), .second, .val (.long q4), .second, .val (.int p5), .val (.long A), .second, .val (.long B), .second, .val (.long W), .second, .val (.long H), .second, .val (.int (0 : Int32)), .val (.double (own_r n)), .second, .val (.long n), .second, .val (.long (own_k W A H B)), .second, .unset, .unset, .unset, .unset] [(.long (own_k W A H B))])) rfl (hb hby at_151) t k) ?_
    show OwnEnds _ _ _ _ _ _ _ (T1.setTop (mkF m 154 #[.val (.long q1), .second, .val (.long q2), .second, .val (.long q3), .second, .val (.long q4), .second, .val (.int p5), .val (.long A), .second, .val (.long B), .second, .val (.long W), .second, .val (.long H), .second, .val (.int (0 : Int32)), .val (.double (own_r n)), .second, .val (.long n), .second, .val (.long (own_k W A H B)), .second, .unset, .unset, .unset, .unset] [(.long (500 : Int64)), (.long (own_k W A H B))]))
    refine OwnEnds.st (fun t k => XS.lcmp X1.here hx rfl (hb hby at_154) rfl k) ?_
    show OwnEnds _ _ _ _ _ _ _ (T1.setTop (mkF m 155 #[.val (.long q1), .second, .val (.long q2), .second, .val (.long q3), .second, .val (.long q4), .second, .val (.int p5), .val (.long A), .second, .val (.long B), .second, .val (.long W), .second, .val (.long H), .second, .val (.int (0 : Int32)), .val (.double (own_r n)), .second, .val (.long n), .second, .val (.long (own_k W A H B)), .second, .unset, .unset, .unset, .unset] [(.int (lcmpW (own_k W A H B) (500 : Int64)))]))
    refine OwnEnds.st (fun t k => XS.ifYes X1.here hx rfl (pc0 := 155) (pc' := 160) rfl (hb hby at_155) rfl ((if0 _ _).trans (flt (own_lcle (by rw [Int64.lt_iff_toInt_lt]; have q := (own_kk hB).2.1; show ¬ (500 : Int) < _; omega) : ¬ ((0 : Int32) < (lcmpW (own_k W A H B) (500 : Int64))))).2.2.2) (by decide) (by decide) k) ?_
    show OwnEnds _ _ _ _ _ _ _ (T1.setTop (mkF m 160 #[.val (.long q1), .second, .val (.long q2), .second, .val (.long q3), .second, .val (.long q4), .second, .val (.int p5), .val (.long A), .second, .val (.long B), .second, .val (.long W), .second, .val (.long H), .second, .val (.int (0 : Int32)), .val (.double (own_r n)), .second, .val (.long n), .second, .val (.long (own_k W A H B)), .second, .unset, .unset, .unset, .unset] []))
    refine OwnEnds.st (fun t k => X1.ldc2Long hx hown (mvT hZ (hw _ (List.mem_of_getElem? (i := 25) rfl))) (g := (mkF m 160 #[.val (.long q1), .second, .val (.long q2), .second, .val (.long q3), .second, .val (.long q4), .second, .val (.int p5), .val (.long A), .second, .val (.long B), .second, .val (.long W), .second, .val (.long H), .second, .val (.int (0 : Int32)), .val (.double (own_r n)), .second, .val (.long n), .second, .val (.long (own_k W A H B)), .second, .unset, .unset, .unset, .unset] [])) rfl (hb hby at_160) t k) ?_
    show OwnEnds _ _ _ _ _ _ _ (T1.setTop (mkF m 163 #[.val (.long q1), .second, .val (.long q2), .second, .val (.long q3), .second, .val (.long q4), .second, .val (.int p5), .val (.long A), .second, .val (.long B), .second, .val (.long W), .second, .val (.long H), .second, .val (.int (0 : Int32)), .val (.double (own_r n)), .second, .val (.long n), .second, .val (.long (own_k W A H B)), .second, .unset, .unset, .unset, .unset] [(.long (500 : Int64))]))
    refine OwnEnds.st (fun t k => X1.ldc2Long hx hown (mvT hZ (hw _ (List.mem_of_getElem? (i := 26) rfl))) (g := (mkF m 163 #[.val (.long q1), .second, .val (.long q2), .second, .val (.long q3), .second, .val (.long q4), .second, .val (.int p5), .val (.long A), .second, .val (.long B), .second, .val (.long W), .second, .val (.long H), .second, .val (.int (0 : Int32)), .val (.double (own_r n)), .second, .val (.long n), .second, .val (.long (own_k W A H B)), .second, .unset, .unset, .unset, .unset] [(.long (500 : Int64))])) rfl (hb hby at_163) t k) ?_
    show OwnEnds _ _ _ _ _ _ _ (T1.setTop (mkF m 166 #[.val (.long q1), .second, .val (.long q2), .second, .val (.long q3), .second, .val (.long q4), .second, .val (.int p5), .val (.long A), .second, .val (.long B), .second, .val (.long W), .second, .val (.long H), .second, .val (.int (0 : Int32)), .val (.double (own_r n)), .second, .val (.long n), .second, .val (.long (own_k W A H B)), .second, .unset, .unset, .unset, .unset] [(.long (3 : Int64)), (.long (500 : Int64))]))
    refine OwnEnds.st (fun t k => XS.lload X1.here hx rfl (hb hby at_166) rfl k) ?_
    show OwnEnds _ _ _ _ _ _ _ (T1.setTop (mkF m 168 #[.val (.long q1), .second, .val (.long q2), .second, .val (.long q3), .second, .val (.long q4), .second, .val (.int p5), .val (.long A), .second, .val (.long B), .second, .val (.long W), .second, .val (.long H), .second, .val (.int (0 : Int32)), .val (.double (own_r n)), .second, .val (.long n), .second, .val (.long (own_k W A H B)), .second, .unset, .unset, .unset, .unset] [(.long W), (.long (3 : Int64)), (.long (500 : Int64))]))
    refine OwnEnds.st (fun t k => XS.lmul X1.here hx rfl (hb hby at_168) rfl k) ?_
    show OwnEnds _ _ _ _ _ _ _ (T1.setTop (mkF m 169 #[.val (.long q1), .second, .val (.long q2), .second, .val (.long q3), .second, .val (.long q4), .second, .val (.int p5), .val (.long A), .second, .val (.long B), .second, .val (.long W), .second, .val (.long H), .second, .val (.int (0 : Int32)), .val (.double (own_r n)), .second, .val (.long n), .second, .val (.long (own_k W A H B)), .second, .unset, .unset, .unset, .unset] [(.long ((3 : Int64) * W)), (.long (500 : Int64))]))
    refine OwnEnds.st (fun t k => XS.lload X1.here hx rfl (hb hby at_169) rfl k) ?_
    show OwnEnds _ _ _ _ _ _ _ (T1.setTop (mkF m 171 #[.val (.long q1), .second, .val (.long q2), .second, .val (.long q3), .second, .val (.long q4), .second, .val (.int p5), .val (.long A), .second, .val (.long B), .second, .val (.long W), .second, .val (.long H), .second, .val (.int (0 : Int32)), .val (.double (own_r n)), .second, .val (.long n), .second, .val (.long (own_k W A H B)), .second, .unset, .unset, .unset, .unset] [(.long B), (.long ((3 : Int64) * W)), (.long (500 : Int64))]))
    refine OwnEnds.st (fun t k => XS.lmul X1.here hx rfl (hb hby at_171) rfl k) ?_
    show OwnEnds _ _ _ _ _ _ _ (T1.setTop (mkF m 172 #[.val (.long q1), .second, .val (.long q2), .second, .val (.long q3), .second, .val (.long q4), .second, .val (.int p5), .val (.long A), .second, .val (.long B), .second, .val (.long W), .second, .val (.long H), .second, .val (.int (0 : Int32)), .val (.double (own_r n)), .second, .val (.long n), .second, .val (.long (own_k W A H B)), .second, .unset, .unset, .unset, .unset] [(.long (((3 : Int64) * W) * B)), (.long (500 : Int64))]))
    refine OwnEnds.st (fun t k => X1.ldc2Long hx hown (mvT hZ (hw _ (List.mem_of_getElem? (i := 1) rfl))) (g := (mkF m 172 #[.val (.long q1), .second, .val (.long q2), .second, .val (.long q3), .second, .val (.long q4), .second, .val (.int p5), .val (.long A), .second, .val (.long B), .second, .val (.long W), .second, .val (.long H), .second, .val (.int (0 : Int32)), .val (.double (own_r n)), .second, .val (.long n), .second, .val (.long (own_k W A H B)), .second, .unset, .unset, .unset, .unset] [(.long (((3 : Int64) * W) * B)), (.long (500 : Int64))])) rfl (hb hby at_172) t k) ?_
    show OwnEnds _ _ _ _ _ _ _ (T1.setTop (mkF m 175 #[.val (.long q1), .second, .val (.long q2), .second, .val (.long q3), .second, .val (.long q4), .second, .val (.int p5), .val (.long A), .second, .val (.long B), .second, .val (.long W), .second, .val (.long H), .second, .val (.int (0 : Int32)), .val (.double (own_r n)), .second, .val (.long n), .second, .val (.long (own_k W A H B)), .second, .unset, .unset, .unset, .unset] [(.long (2 : Int64)), (.long (((3 : Int64) * W) * B)), (.long (500 : Int64))]))
    refine OwnEnds.st (fun t k => XS.lload X1.here hx rfl (hb hby at_175) rfl k) ?_
    show OwnEnds _ _ _ _ _ _ _ (T1.setTop (mkF m 177 #[.val (.long q1), .second, .val (.long q2), .second, .val (.long q3), .second, .val (.long q4), .second, .val (.int p5), .val (.long A), .second, .val (.long B), .second, .val (.long W), .second, .val (.long H), .second, .val (.int (0 : Int32)), .val (.double (own_r n)), .second, .val (.long n), .second, .val (.long (own_k W A H B)), .second, .unset, .unset, .unset, .unset] [(.long H), (.long (2 : Int64)), (.long (((3 : Int64) * W) * B)), (.long (500 : Int64))]))
    refine OwnEnds.st (fun t k => XS.lmul X1.here hx rfl (hb hby at_177) rfl k) ?_
    show OwnEnds _ _ _ _ _ _ _ (T1.setTop (mkF m 178 #[.val (.long q1), .second, .val (.long q2), .second, .val (.long q3), .second, .val (.long q4), .second, .val (.int p5), .val (.long A), .second, .val (.long B), .second, .val (.long W), .second, .val (.long H), .second, .val (.int (0 : Int32)), .val (.double (own_r n)), .second, .val (.long n), .second, .val (.long (own_k W A H B)), .second, .unset, .unset, .unset, .unset] [(.long ((2 : Int64) * H)), (.long (((3 : Int64) * W) * B)), (.long (500 : Int64))]))
    refine OwnEnds.st (fun t k => XS.lload X1.here hx rfl (hb hby at_178) rfl k) ?_
    show OwnEnds _ _ _ _ _ _ _ (T1.setTop (mkF m 180 #[.val (.long q1), .second, .val (.long q2), .second, .val (.long q3), .second, .val (.long q4), .second, .val (.int p5), .val (.long A), .second, .val (.long B), .second, .val (.long W), .second, .val (.long H), .second, .val (.int (0 : Int32)), .val (.double (own_r n)), .second, .val (.long n), .second, .val (.long (own_k W A H B)), .second, .unset, .unset, .unset, .unset] [(.long A), (.long ((2 : Int64) * H)), (.long (((3 : Int64) * W) * B)), (.long (500 : Int64))]))
    refine OwnEnds.st (fun t k => XS.lmul X1.here hx rfl (hb hby at_180) rfl k) ?_
    show OwnEnds _ _ _ _ _ _ _ (T1.setTop (mkF m 181 #[.val (.long q1), .second, .val (.long q2), .second, .val (.long q3), .second, .val (.long q4), .second, .val (.int p5), .val (.long A), .second, .val (.long B), .second, .val (.long W), .second, .val (.long H), .second, .val (.int (0 : Int32)), .val (.double (own_r n)), .second, .val (.long n), .second, .val (.long (own_k W A H B)), .second, .unset, .unset, .unset, .unset] [(.long (((2 : Int64) * H) * A)), (.long (((3 : Int64) * W) * B)), (.long (500 : Int64))]))
    refine OwnEnds.st (fun t k => XS.ladd X1.here hx rfl (hb hby at_181) rfl k) ?_
    show OwnEnds _ _ _ _ _ _ _ (T1.setTop (mkF m 182 #[.val (.long q1), .second, .val (.long q2), .second, .val (.long q3), .second, .val (.long q4), .second, .val (.int p5), .val (.long A), .second, .val (.long B), .second, .val (.long W), .second, .val (.long H), .second, .val (.int (0 : Int32)), .val (.double (own_r n)), .second, .val (.long n), .second, .val (.long (own_k W A H B)), .second, .unset, .unset, .unset, .unset] [(.long ((((3 : Int64) * W) * B) + (((2 : Int64) * H) * A))), (.long (500 : Int64))]))
    refine OwnEnds.st (fun t k => XS.lmul X1.here hx rfl (hb hby at_182) rfl k) ?_
    show OwnEnds _ _ _ _ _ _ _ (T1.setTop (mkF m 183 #[.val (.long q1), .second, .val (.long q2), .second, .val (.long q3), .second, .val (.long q4), .second, .val (.int p5), .val (.long A), .second, .val (.long B), .second, .val (.long W), .second, .val (.long H), .second, .val (.int (0 : Int32)), .val (.double (own_r n)), .second, .val (.long n), .second, .val (.long (own_k W A H B)), .second, .unset, .unset, .unset, .unset] [(.long ((500 : Int64) * ((((3 : Int64) * W) * B) + (((2 : Int64) * H) * A))))]))
    refine OwnEnds.st (fun t k => XS.lstore X1.here hx rfl (hb hby at_183) rfl (l' := #[.val (.long q1), .second, .val (.long q2), .second, .val (.long q3), .second, .val (.long q4), .second, .val (.int p5), .val (.long A), .second, .val (.long B), .second, .val (.long W), .second, .val (.long H), .second, .val (.int (0 : Int32)), .val (.double (own_r n)), .second, .val (.long n), .second, .val (.long (own_k W A H B)), .second, .val (.long ((500 : Int64) * ((((3 : Int64) * W) * B) + (((2 : Int64) * H) * A)))), .second, .unset, .unset]) rfl k) ?_
    show OwnEnds _ _ _ _ _ _ _ (T1.setTop (mkF m 185 #[.val (.long q1), .second, .val (.long q2), .second, .val (.long q3), .second, .val (.long q4), .second, .val (.int p5), .val (.long A), .second, .val (.long B), .second, .val (.long W), .second, .val (.long H), .second, .val (.int (0 : Int32)), .val (.double (own_r n)), .second, .val (.long n), .second, .val (.long (own_k W A H B)), .second, .val (.long ((500 : Int64) * ((((3 : Int64) * W) * B) + (((2 : Int64) * H) * A)))), .second, .unset, .unset] []))
    refine OwnEnds.st (fun t k => X1.ldc2Long hx hown (mvT hZ (hw _ (List.mem_of_getElem? (i := 27) rfl))) (g := (mkF m 185 #[.val (.long q1), .second, .val (.long q2), .second, .val (.long q3), .second, .val (.long q4), .second, .val (.int p5), .val (.long A), .second, .val (.long B), .second, .val (.long W), .second, .val (.long H), .second, .val (.int (0 : Int32)), .val (.double (own_r n)), .second, .val (.long n), .second, .val (.long (own_k W A H B)), .second, .val (.long ((500 : Int64) * ((((3 : Int64) * W) * B) + (((2 : Int64) * H) * A)))), .second, .unset, .unset] [])) rfl (hb hby at_185) t k) ?_
    show OwnEnds _ _ _ _ _ _ _ (T1.setTop (mkF m 188 #[.val (.long q1), .second, .val (.long q2), .second, .val (.long q3), .second, .val (.long q4), .second, .val (.int p5), .val (.long A), .second, .val (.long B), .second, .val (.long W), .second, .val (.long H), .second, .val (.int (0 : Int32)), .val (.double (own_r n)), .second, .val (.long n), .second, .val (.long (own_k W A H B)), .second, .val (.long ((500 : Int64) * ((((3 : Int64) * W) * B) + (((2 : Int64) * H) * A)))), .second, .unset, .unset] [(.long (4 : Int64))]))
    refine OwnEnds.st (fun t k => XS.lload X1.here hx rfl (hb hby at_188) rfl k) ?_
    show OwnEnds _ _ _ _ _ _ _ (T1.setTop (mkF m 190 #[.val (.long q1), .second, .val (.long q2), .second, .val (.long q3), .second, .val (.long q4), .second, .val (.int p5), .val (.long A), .second, .val (.long B), .second, .val (.long W), .second, .val (.long H), .second, .val (.int (0 : Int32)), .val (.double (own_r n)), .second, .val (.long n), .second, .val (.long (own_k W A H B)), .second, .val (.long ((500 : Int64) * ((((3 : Int64) * W) * B) + (((2 : Int64) * H) * A)))), .second, .unset, .unset] [(.long A), (.long (4 : Int64))]))
    refine OwnEnds.st (fun t k => XS.lmul X1.here hx rfl (hb hby at_190) rfl k) ?_
    show OwnEnds _ _ _ _ _ _ _ (T1.setTop (mkF m 191 #[.val (.long q1), .second, .val (.long q2), .second, .val (.long q3), .second, .val (.long q4), .second, .val (.int p5), .val (.long A), .second, .val (.long B), .second, .val (.long W), .second, .val (.long H), .second, .val (.int (0 : Int32)), .val (.double (own_r n)), .second, .val (.long n), .second, .val (.long (own_k W A H B)), .second, .val (.long ((500 : Int64) * ((((3 : Int64) * W) * B) + (((2 : Int64) * H) * A)))), .second, .unset, .unset] [(.long ((4 : Int64) * A))]))
    refine OwnEnds.st (fun t k => XS.lload X1.here hx rfl (hb hby at_191) rfl k) ?_
    show OwnEnds _ _ _ _ _ _ _ (T1.setTop (mkF m 193 #[.val (.long q1), .second, .val (.long q2), .second, .val (.long q3), .second, .val (.long q4), .second, .val (.int p5), .val (.long A), .second, .val (.long B), .second, .val (.long W), .second, .val (.long H), .second, .val (.int (0 : Int32)), .val (.double (own_r n)), .second, .val (.long n), .second, .val (.long (own_k W A H B)), .second, .val (.long ((500 : Int64) * ((((3 : Int64) * W) * B) + (((2 : Int64) * H) * A)))), .second, .unset, .unset] [(.long B), (.long ((4 : Int64) * A))]))
    refine OwnEnds.st (fun t k => XS.lmul X1.here hx rfl (hb hby at_193) rfl k) ?_
    show OwnEnds _ _ _ _ _ _ _ (T1.setTop (mkF m 194 #[.val (.long q1), .second, .val (.long q2), .second, .val (.long q3), .second, .val (.long q4), .second, .val (.int p5), .val (.long A), .second, .val (.long B), .second, .val (.long W), .second, .val (.long H), .second, .val (.int (0 : Int32)), .val (.double (own_r n)), .second, .val (.long n), .second, .val (.long (own_k W A H B)), .second, .val (.long ((500 : Int64) * ((((3 : Int64) * W) * B) + (((2 : Int64) * H) * A)))), .second, .unset, .unset] [(.long (((4 : Int64) * A) * B))]))
    refine OwnEnds.st (fun t k => XS.lstore X1.here hx rfl (hb hby at_194) rfl (l' := #[.val (.long q1), .second, .val (.long q2), .second, .val (.long q3), .second, .val (.long q4), .second, .val (.int p5), .val (.long A), .second, .val (.long B), .second, .val (.long W), .second, .val (.long H), .second, .val (.int (0 : Int32)), .val (.double (own_r n)), .second, .val (.long n), .second, .val (.long (own_k W A H B)), .second, .val (.long ((500 : Int64) * ((((3 : Int64) * W) * B) + (((2 : Int64) * H) * A)))), .second, .val (.long (((4 : Int64) * A) * B)), .second]) rfl k) ?_
    show OwnEnds _ _ _ _ _ _ _ (T1.setTop (mkF m 196 #[.val (.long q1), .second, .val (.long q2), .second, .val (.long q3), .second, .val (.long q4), .second, .val (.int p5), .val (.long A), .second, .val (.long B), .second, .val (.long W), .second, .val (.long H), .second, .val (.int (0 : Int32)), .val (.double (own_r n)), .second, .val (.long n), .second, .val (.long (own_k W A H B)), .second, .val (.long ((500 : Int64) * ((((3 : Int64) * W) * B) + (((2 : Int64) * H) * A)))), .second, .val (.long (((4 : Int64) * A) * B)), .second] []))
    refine OwnEnds.st (fun t k => XS.lload X1.here hx rfl (hb hby at_196) rfl k) ?_
    show OwnEnds _ _ _ _ _ _ _ (T1.setTop (mkF m 198 #[.val (.long q1), .second, .val (.long q2), .second, .val (.long q3), .second, .val (.long q4), .second, .val (.int p5), .val (.long A), .second, .val (.long B), .second, .val (.long W), .second, .val (.long H), .second, .val (.int (0 : Int32)), .val (.double (own_r n)), .second, .val (.long n), .second, .val (.long (own_k W A H B)), .second, .val (.long ((500 : Int64) * ((((3 : Int64) * W) * B) + (((2 : Int64) * H) * A)))), .second, .val (.long (((4 : Int64) * A) * B)), .second] [(.long (own_k W A H B))]))
    refine OwnEnds.st (fun t k => XS.lconst X1.here hx rfl (hb hby at_198) k) ?_
    show OwnEnds _ _ _ _ _ _ _ (T1.setTop (mkF m 199 #[.val (.long q1), .second, .val (.long q2), .second, .val (.long q3), .second, .val (.long q4), .second, .val (.int p5), .val (.long A), .second, .val (.long B), .second, .val (.long W), .second, .val (.long H), .second, .val (.int (0 : Int32)), .val (.double (own_r n)), .second, .val (.long n), .second, .val (.long (own_k W A H B)), .second, .val (.long ((500 : Int64) * ((((3 : Int64) * W) * B) + (((2 : Int64) * H) * A)))), .second, .val (.long (((4 : Int64) * A) * B)), .second] [(.long (1 : Int64)), (.long (own_k W A H B))]))
    refine OwnEnds.st (fun t k => XS.lsub X1.here hx rfl (hb hby at_199) rfl k) ?_
    show OwnEnds _ _ _ _ _ _ _ (T1.setTop (mkF m 200 #[.val (.long q1), .second, .val (.long q2), .second, .val (.long q3), .second, .val (.long q4), .second, .val (.int p5), .val (.long A), .second, .val (.long B), .second, .val (.long W), .second, .val (.long H), .second, .val (.int (0 : Int32)), .val (.double (own_r n)), .second, .val (.long n), .second, .val (.long (own_k W A H B)), .second, .val (.long ((500 : Int64) * ((((3 : Int64) * W) * B) + (((2 : Int64) * H) * A)))), .second, .val (.long (((4 : Int64) * A) * B)), .second] [(.long ((own_k W A H B) - (1 : Int64)))]))
    refine OwnEnds.st (fun t k => XS.lload X1.here hx rfl (hb hby at_200) rfl k) ?_
    show OwnEnds _ _ _ _ _ _ _ (T1.setTop (mkF m 202 #[.val (.long q1), .second, .val (.long q2), .second, .val (.long q3), .second, .val (.long q4), .second, .val (.int p5), .val (.long A), .second, .val (.long B), .second, .val (.long W), .second, .val (.long H), .second, .val (.int (0 : Int32)), .val (.double (own_r n)), .second, .val (.long n), .second, .val (.long (own_k W A H B)), .second, .val (.long ((500 : Int64) * ((((3 : Int64) * W) * B) + (((2 : Int64) * H) * A)))), .second, .val (.long (((4 : Int64) * A) * B)), .second] [(.long (((4 : Int64) * A) * B)), (.long ((own_k W A H B) - (1 : Int64)))]))
    refine OwnEnds.st (fun t k => XS.lmul X1.here hx rfl (hb hby at_202) rfl k) ?_
    show OwnEnds _ _ _ _ _ _ _ (T1.setTop (mkF m 203 #[.val (.long q1), .second, .val (.long q2), .second, .val (.long q3), .second, .val (.long q4), .second, .val (.int p5), .val (.long A), .second, .val (.long B), .second, .val (.long W), .second, .val (.long H), .second, .val (.int (0 : Int32)), .val (.double (own_r n)), .second, .val (.long n), .second, .val (.long (own_k W A H B)), .second, .val (.long ((500 : Int64) * ((((3 : Int64) * W) * B) + (((2 : Int64) * H) * A)))), .second, .val (.long (((4 : Int64) * A) * B)), .second] [(.long (((own_k W A H B) - (1 : Int64)) * (((4 : Int64) * A) * B)))]))
    refine OwnEnds.st (fun t k => XS.lload X1.here hx rfl (hb hby at_203) rfl k) ?_
    show OwnEnds _ _ _ _ _ _ _ (T1.setTop (mkF m 205 #[.val (.long q1), .second, .val (.long q2), .second, .val (.long q3), .second, .val (.long q4), .second, .val (.int p5), .val (.long A), .second, .val (.long B), .second, .val (.long W), .second, .val (.long H), .second, .val (.int (0 : Int32)), .val (.double (own_r n)), .second, .val (.long n), .second, .val (.long (own_k W A H B)), .second, .val (.long ((500 : Int64) * ((((3 : Int64) * W) * B) + (((2 : Int64) * H) * A)))), .second, .val (.long (((4 : Int64) * A) * B)), .second] [(.long ((500 : Int64) * ((((3 : Int64) * W) * B) + (((2 : Int64) * H) * A)))), (.long (((own_k W A H B) - (1 : Int64)) * (((4 : Int64) * A) * B)))]))
    refine OwnEnds.st (fun t k => XS.lcmp X1.here hx rfl (hb hby at_205) rfl k) ?_
    show OwnEnds _ _ _ _ _ _ _ (T1.setTop (mkF m 206 #[.val (.long q1), .second, .val (.long q2), .second, .val (.long q3), .second, .val (.long q4), .second, .val (.int p5), .val (.long A), .second, .val (.long B), .second, .val (.long W), .second, .val (.long H), .second, .val (.int (0 : Int32)), .val (.double (own_r n)), .second, .val (.long n), .second, .val (.long (own_k W A H B)), .second, .val (.long ((500 : Int64) * ((((3 : Int64) * W) * B) + (((2 : Int64) * H) * A)))), .second, .val (.long (((4 : Int64) * A) * B)), .second] [(.int (lcmpW (((own_k W A H B) - (1 : Int64)) * (((4 : Int64) * A) * B)) ((500 : Int64) * ((((3 : Int64) * W) * B) + (((2 : Int64) * H) * A)))))]))
    refine OwnEnds.st (fun t k => XS.ifNo X1.here hx rfl (hb hby at_206) rfl ((if0 _ _).trans (tlt (own_lclt (own_end hB).1 : (lcmpW (((own_k W A H B) - (1 : Int64)) * (((4 : Int64) * A) * B)) ((500 : Int64) * ((((3 : Int64) * W) * B) + (((2 : Int64) * H) * A)))) < (0 : Int32))).2.1) k) ?_
    show OwnEnds _ _ _ _ _ _ _ (T1.setTop (mkF m 209 #[.val (.long q1), .second, .val (.long q2), .second, .val (.long q3), .second, .val (.long q4), .second, .val (.int p5), .val (.long A), .second, .val (.long B), .second, .val (.long W), .second, .val (.long H), .second, .val (.int (0 : Int32)), .val (.double (own_r n)), .second, .val (.long n), .second, .val (.long (own_k W A H B)), .second, .val (.long ((500 : Int64) * ((((3 : Int64) * W) * B) + (((2 : Int64) * H) * A)))), .second, .val (.long (((4 : Int64) * A) * B)), .second] []))
    refine OwnEnds.st (fun t k => XS.lload X1.here hx rfl (hb hby at_209) rfl k) ?_
    show OwnEnds _ _ _ _ _ _ _ (T1.setTop (mkF m 211 #[.val (.long q1), .second, .val (.long q2), .second, .val (.long q3), .second, .val (.long q4), .second, .val (.int p5), .val (.long A), .second, .val (.long B), .second, .val (.long W), .second, .val (.long H), .second, .val (.int (0 : Int32)), .val (.double (own_r n)), .second, .val (.long n), .second, .val (.long (own_k W A H B)), .second, .val (.long ((500 : Int64) * ((((3 : Int64) * W) * B) + (((2 : Int64) * H) * A)))), .second, .val (.long (((4 : Int64) * A) * B)), .second] [(.long ((500 : Int64) * ((((3 : Int64) * W) * B) + (((2 : Int64) * H) * A))))]))
    refine OwnEnds.st (fun t k => XS.lload X1.here hx rfl (hb hby at_211) rfl k) ?_
    show OwnEnds _ _ _ _ _ _ _ (T1.setTop (mkF m 213 #[.val (.long q1), .second, .val (.long q2), .second, .val (.long q3), .second, .val (.long q4), .second, .val (.int p5), .val (.long A), .second, .val (.long B), .second, .val (.long W), .second, .val (.long H), .second, .val (.int (0 : Int32)), .val (.double (own_r n)), .second, .val (.long n), .second, .val (.long (own_k W A H B)), .second, .val (.long ((500 : Int64) * ((((3 : Int64) * W) * B) + (((2 : Int64) * H) * A)))), .second, .val (.long (((4 : Int64) * A) * B)), .second] [(.long (own_k W A H B)), (.long ((500 : Int64) * ((((3 : Int64) * W) * B) + (((2 : Int64) * H) * A))))]))
    refine OwnEnds.st (fun t k => XS.lload X1.here hx rfl (hb hby at_213) rfl k) ?_
    show OwnEnds _ _ _ _ _ _ _ (T1.setTop (mkF m 215 #[.val (.long q1), .second, .val (.long q2), .second, .val (.long q3), .second, .val (.long q4), .second, .val (.int p5), .val (.long A), .second, .val (.long B), .second, .val (.long W), .second, .val (.long H), .second, .val (.int (0 : Int32)), .val (.double (own_r n)), .second, .val (.long n), .second, .val (.long (own_k W A H B)), .second, .val (.long ((500 : Int64) * ((((3 : Int64) * W) * B) + (((2 : Int64) * H) * A)))), .second, .val (.long (((4 : Int64) * A) * B)), .second] [(.long (((4 : Int64) * A) * B)), (.long (own_k W A H B)), (.long ((500 : Int64) * ((((3 : Int64) * W) * B) + (((2 : Int64) * H) * A))))]))
    refine OwnEnds.st (fun t k => XS.lmul X1.here hx rfl (hb hby at_215) rfl k) ?_
    show OwnEnds _ _ _ _ _ _ _ (T1.setTop (mkF m 216 #[.val (.long q1), .second, .val (.long q2), .second, .val (.long q3), .second, .val (.long q4), .second, .val (.int p5), .val (.long A), .second, .val (.long B), .second, .val (.long W), .second, .val (.long H), .second, .val (.int (0 : Int32)), .val (.double (own_r n)), .second, .val (.long n), .second, .val (.long (own_k W A H B)), .second, .val (.long ((500 : Int64) * ((((3 : Int64) * W) * B) + (((2 : Int64) * H) * A)))), .second, .val (.long (((4 : Int64) * A) * B)), .second] [(.long ((own_k W A H B) * (((4 : Int64) * A) * B))), (.long ((500 : Int64) * ((((3 : Int64) * W) * B) + (((2 : Int64) * H) * A))))]))
    refine OwnEnds.st (fun t k => XS.lcmp X1.here hx rfl (hb hby at_216) rfl k) ?_
    show OwnEnds _ _ _ _ _ _ _ (T1.setTop (mkF m 217 #[.val (.long q1), .second, .val (.long q2), .second, .val (.long q3), .second, .val (.long q4), .second, .val (.int p5), .val (.long A), .second, .val (.long B), .second, .val (.long W), .second, .val (.long H), .second, .val (.int (0 : Int32)), .val (.double (own_r n)), .second, .val (.long n), .second, .val (.long (own_k W A H B)), .second, .val (.long ((500 : Int64) * ((((3 : Int64) * W) * B) + (((2 : Int64) * H) * A)))), .second, .val (.long (((4 : Int64) * A) * B)), .second] [(.int (lcmpW ((500 : Int64) * ((((3 : Int64) * W) * B) + (((2 : Int64) * H) * A))) ((own_k W A H B) * (((4 : Int64) * A) * B))))]))
    refine OwnEnds.st (fun t k => XS.ifNo X1.here hx rfl (hb hby at_217) rfl ((if0 _ _).trans (flt (own_lcle (own_end hB).2 : ¬ ((0 : Int32) < (lcmpW ((500 : Int64) * ((((3 : Int64) * W) * B) + (((2 : Int64) * H) * A))) ((own_k W A H B) * (((4 : Int64) * A) * B)))))).2.2.1) k) ?_
    show OwnEnds _ _ _ _ _ _ _ (T1.setTop (mkF m 220 #[.val (.long q1), .second, .val (.long q2), .second, .val (.long q3), .second, .val (.long q4), .second, .val (.int p5), .val (.long A), .second, .val (.long B), .second, .val (.long W), .second, .val (.long H), .second, .val (.int (0 : Int32)), .val (.double (own_r n)), .second, .val (.long n), .second, .val (.long (own_k W A H B)), .second, .val (.long ((500 : Int64) * ((((3 : Int64) * W) * B) + (((2 : Int64) * H) * A)))), .second, .val (.long (((4 : Int64) * A) * B)), .second] []))
    refine OwnEnds.st (fun t k => XS.iconst X1.here hx rfl (hb hby at_220) k) ?_
    show OwnEnds _ _ _ _ _ _ _ (T1.setTop (mkF m 221 #[.val (.long q1), .second, .val (.long q2), .second, .val (.long q3), .second, .val (.long q4), .second, .val (.int p5), .val (.long A), .second, .val (.long B), .second, .val (.long W), .second, .val (.long H), .second, .val (.int (0 : Int32)), .val (.double (own_r n)), .second, .val (.long n), .second, .val (.long (own_k W A H B)), .second, .val (.long ((500 : Int64) * ((((3 : Int64) * W) * B) + (((2 : Int64) * H) * A)))), .second, .val (.long (((4 : Int64) * A) * B)), .second] [(.int (1 : Int32))]))
    refine OwnEnds.st (fun t k => XS.goto X1.here hx rfl (pc0 := 221) (pc' := 225) rfl (hb hby at_221) (by decide) (by decide) k) ?_
    show OwnEnds _ _ _ _ _ _ _ (T1.setTop (mkF m 225 #[.val (.long q1), .second, .val (.long q2), .second, .val (.long q3), .second, .val (.long q4), .second, .val (.int p5), .val (.long A), .second, .val (.long B), .second, .val (.long W), .second, .val (.long H), .second, .val (.int (0 : Int32)), .val (.double (own_r n)), .second, .val (.long n), .second, .val (.long (own_k W A H B)), .second, .val (.long ((500 : Int64) * ((((3 : Int64) * W) * B) + (((2 : Int64) * H) * A)))), .second, .val (.long (((4 : Int64) * A) * B)), .second] [(.int (1 : Int32))]))
    refine own_retN (t := .boolean) X1 hx Bd.returns Bd.notSynchronized (by simp) (hb hby at_225) ?_ (by decide) (by decide)
    show Q0 Z q1 q2 q3 q4 p5 h0 n0 _ T1.heap _
    rw [hh1]
    exact ⟨rfl, N1⟩
  · refine OwnEnds.st (fun t k => XS.ifNo X0.here hx rfl (hb hby at_54) rfl ((if0 _ _).trans (feq (hs : ¬ ((p5 &&& (1 : Int32)) = (0 : Int32)))).1) k) ?_
    show OwnEnds _ _ _ _ _ _ _ (s₁.setTop (mkF m 57 #[.val (.long q1), .second, .val (.long q2), .second, .val (.long q3), .second, .val (.long q4), .second, .val (.int p5), .val (.long A), .second, .val (.long B), .second, .val (.long W), .second, .val (.long H), .second, .unset, .unset, .unset, .unset, .unset, .unset, .unset, .unset, .unset, .unset, .unset] []))
    refine OwnEnds.st (fun t k => XS.iconst X0.here hx rfl (hb hby at_57) k) ?_
    show OwnEnds _ _ _ _ _ _ _ (s₁.setTop (mkF m 58 #[.val (.long q1), .second, .val (.long q2), .second, .val (.long q3), .second, .val (.long q4), .second, .val (.int p5), .val (.long A), .second, .val (.long B), .second, .val (.long W), .second, .val (.long H), .second, .unset, .unset, .unset, .unset, .unset, .unset, .unset, .unset, .unset, .unset, .unset] [(.int (1 : Int32))]))
    refine OwnEnds.st (fun t k => XS.goto X0.here hx rfl (pc0 := 58) (pc' := 62) rfl (hb hby at_58) (by decide) (by decide) k) ?_
    show OwnEnds _ _ _ _ _ _ _ (s₁.setTop (mkF m 62 #[.val (.long q1), .second, .val (.long q2), .second, .val (.long q3), .second, .val (.long q4), .second, .val (.int p5), .val (.long A), .second, .val (.long B), .second, .val (.long W), .second, .val (.long H), .second, .unset, .unset, .unset, .unset, .unset, .unset, .unset, .unset, .unset, .unset, .unset] [(.int (1 : Int32))]))
    refine OwnEnds.st (fun t k => XS.istore X0.here hx rfl (hb hby at_62) rfl (l' := #[.val (.long q1), .second, .val (.long q2), .second, .val (.long q3), .second, .val (.long q4), .second, .val (.int p5), .val (.long A), .second, .val (.long B), .second, .val (.long W), .second, .val (.long H), .second, .val (.int (1 : Int32)), .unset, .unset, .unset, .unset, .unset, .unset, .unset, .unset, .unset, .unset]) rfl k) ?_
    show OwnEnds _ _ _ _ _ _ _ (s₁.setTop (mkF m 64 #[.val (.long q1), .second, .val (.long q2), .second, .val (.long q3), .second, .val (.long q4), .second, .val (.int p5), .val (.long A), .second, .val (.long B), .second, .val (.long W), .second, .val (.long H), .second, .val (.int (1 : Int32)), .unset, .unset, .unset, .unset, .unset, .unset, .unset, .unset, .unset, .unset] []))
    refine OwnEnds.st (fun t k => XS.iload X0.here hx rfl (hb hby at_64) rfl k) ?_
    show OwnEnds _ _ _ _ _ _ _ (s₁.setTop (mkF m 66 #[.val (.long q1), .second, .val (.long q2), .second, .val (.long q3), .second, .val (.long q4), .second, .val (.int p5), .val (.long A), .second, .val (.long B), .second, .val (.long W), .second, .val (.long H), .second, .val (.int (1 : Int32)), .unset, .unset, .unset, .unset, .unset, .unset, .unset, .unset, .unset, .unset] [(.int (1 : Int32))]))
    refine OwnEnds.st (fun t k => XS.lload X0.here hx rfl (hb hby at_66) rfl k) ?_
    show OwnEnds _ _ _ _ _ _ _ (s₁.setTop (mkF m 68 #[.val (.long q1), .second, .val (.long q2), .second, .val (.long q3), .second, .val (.long q4), .second, .val (.int p5), .val (.long A), .second, .val (.long B), .second, .val (.long W), .second, .val (.long H), .second, .val (.int (1 : Int32)), .unset, .unset, .unset, .unset, .unset, .unset, .unset, .unset, .unset, .unset] [(.long W), (.int (1 : Int32))]))
    refine OwnEnds.st (fun t k => XS.lload X0.here hx rfl (hb hby at_68) rfl k) ?_
    show OwnEnds _ _ _ _ _ _ _ (s₁.setTop (mkF m 70 #[.val (.long q1), .second, .val (.long q2), .second, .val (.long q3), .second, .val (.long q4), .second, .val (.int p5), .val (.long A), .second, .val (.long B), .second, .val (.long W), .second, .val (.long H), .second, .val (.int (1 : Int32)), .unset, .unset, .unset, .unset, .unset, .unset, .unset, .unset, .unset, .unset] [(.long A), (.long W), (.int (1 : Int32))]))
    refine OwnEnds.st (fun t k => XS.lload X0.here hx rfl (hb hby at_70) rfl k) ?_
    show OwnEnds _ _ _ _ _ _ _ (s₁.setTop (mkF m 72 #[.val (.long q1), .second, .val (.long q2), .second, .val (.long q3), .second, .val (.long q4), .second, .val (.int p5), .val (.long A), .second, .val (.long B), .second, .val (.long W), .second, .val (.long H), .second, .val (.int (1 : Int32)), .unset, .unset, .unset, .unset, .unset, .unset, .unset, .unset, .unset, .unset] [(.long H), (.long A), (.long W), (.int (1 : Int32))]))
    refine OwnEnds.st (fun t k => XS.lload X0.here hx rfl (hb hby at_72) rfl k) ?_
    show OwnEnds _ _ _ _ _ _ _ (s₁.setTop (mkF m 74 #[.val (.long q1), .second, .val (.long q2), .second, .val (.long q3), .second, .val (.long q4), .second, .val (.int p5), .val (.long A), .second, .val (.long B), .second, .val (.long W), .second, .val (.long H), .second, .val (.int (1 : Int32)), .unset, .unset, .unset, .unset, .unset, .unset, .unset, .unset, .unset, .unset] [(.long B), (.long H), (.long A), (.long W), (.int (1 : Int32))]))
    obtain ⟨_, _, ⟨T2, L2, k2, n2⟩, -, X2, ⟨Lc2, hQ2, l2, y2, z2⟩, st2⟩ := Jvm.LawKit.callS X0 hx (y := (⟨"com/example/equate/equate/mathml/Likeness", "likeness", "(ZJJJJ)D"⟩ : MethodName)) hown (mvT hZ (hw _ (List.mem_of_getElem? (i := 3) rfl))) (mvT hZ (hw _ (List.mem_of_getElem? (i := 4) rfl))) (mvT hZ (hw _ (List.mem_of_getElem? (i := 5) rfl))) (mvT hZ (hw _ (List.mem_of_getElem? (i := 6) rfl))) (by decide) (backOf (W := 0) (rm1 l Z a0 hw [] (1 : Int32) W A H B h0 n0 Z0 hB) hZ (hw _ (List.mem_of_getElem? (i := 6) rfl)) (hw _ (List.mem_of_getElem? (i := 5) rfl)) (by decide) (by decide)) (g := (mkF m 74 #[.val (.long q1), .second, .val (.long q2), .second, .val (.long q3), .second, .val (.long q4), .second, .val (.int p5), .val (.long A), .second, .val (.long B), .second, .val (.long W), .second, .val (.long H), .second, .val (.int (1 : Int32)), .unset, .unset, .unset, .unset, .unset, .unset, .unset, .unset, .unset, .unset] [(.long B), (.long H), (.long A), (.long W), (.int (1 : Int32))])) rfl (by rw [hml]; rfl) (argsL := [(.int (1 : Int32)), (.long W), (.long A), (.long H), (.long B)]) (rest := []) (lenOf pd_2 rfl) rfl (by show 2 * 0 + _ ≤ _; exact Nat.le_of_eq rfl) (hb hby at_74) (fun _ _ => ⟨rfl, e0, (by decide : 0 + 0 ≤ _), (by decide : 0 + 0 ≤ _)⟩)
    dsimp only [Pt.U, Pt.locs, Pt.cells, Pt.slots] at X2 l2 y2 z2 st2 hQ2
    subst l2 y2 z2
    obtain ⟨rfl, N2q, hh2⟩ := hQ2
    have N2 := Fr.app N0 N2q
    refine OwnEnds.st st2 ?_
    show OwnEnds _ _ _ _ _ _ _ (T2.setTop (mkF m 77 #[.val (.long q1), .second, .val (.long q2), .second, .val (.long q3), .second, .val (.long q4), .second, .val (.int p5), .val (.long A), .second, .val (.long B), .second, .val (.long W), .second, .val (.long H), .second, .val (.int (1 : Int32)), .unset, .unset, .unset, .unset, .unset, .unset, .unset, .unset, .unset, .unset] [(.double (own_r (own_off (1 : Int32) + own_k W A H B)))]))
    obtain ⟨off, e_off⟩ : ∃ z, z = own_off (1 : Int32) := ⟨_, rfl⟩
    have ho : off.toInt = 0 ∨ off.toInt = 500 := by rw [e_off]; decide
    obtain ⟨hn1, hn2, hn3⟩ := own_n hB ho
    rw [← e_off]
    obtain ⟨n, e_n⟩ : ∃ z, z = off + own_k W A H B := ⟨_, rfl⟩
    rw [← e_n] at hn1 hn2 hn3 ⊢
    show OwnEnds _ _ _ _ _ _ _ (T2.setTop (mkF m 77 #[.val (.long q1), .second, .val (.long q2), .second, .val (.long q3), .second, .val (.long q4), .second, .val (.int p5), .val (.long A), .second, .val (.long B), .second, .val (.long W), .second, .val (.long H), .second, .val (.int (1 : Int32)), .unset, .unset, .unset, .unset, .unset, .unset, .unset, .unset, .unset, .unset] [(.double (own_r n))]))
    refine OwnEnds.st (fun t k => XS.dstore X2.here hx rfl (hb hby at_77) rfl (l' := #[.val (.long q1), .second, .val (.long q2), .second, .val (.long q3), .second, .val (.long q4), .second, .val (.int p5), .val (.long A), .second, .val (.long B), .second, .val (.long W), .second, .val (.long H), .second, .val (.int (1 : Int32)), .val (.double (own_r n)), .second, .unset, .unset, .unset, .unset, .unset, .unset, .unset, .unset]) rfl k) ?_
    show OwnEnds _ _ _ _ _ _ _ (T2.setTop (mkF m 79 #[.val (.long q1), .second, .val (.long q2), .second, .val (.long q3), .second, .val (.long q4), .second, .val (.int p5), .val (.long A), .second, .val (.long B), .second, .val (.long W), .second, .val (.long H), .second, .val (.int (1 : Int32)), .val (.double (own_r n)), .second, .unset, .unset, .unset, .unset, .unset, .unset, .unset, .unset] []))
    refine OwnEnds.st (fun t k => XS.dload X2.here hx rfl (hb hby at_79) rfl k) ?_
    show OwnEnds _ _ _ _ _ _ _ (T2.setTop (mkF m 81 #[.val (.long q1), .second, .val (.long q2), .second, .val (.long q3), .second, .val (.long q4), .second, .val (.int p5), .val (.long A), .second, .val (.long B), .second, .val (.long W), .second, .val (.long H), .second, .val (.int (1 : Int32)), .val (.double (own_r n)), .second, .unset, .unset, .unset, .unset, .unset, .unset, .unset, .unset] [(.double (own_r n))]))
    refine OwnEnds.st (fun t k => XS.dconst0 X2.here hx rfl (hb hby at_81) rfl k) ?_
    show OwnEnds _ _ _ _ _ _ _ (T2.setTop (mkF m 82 #[.val (.long q1), .second, .val (.long q2), .second, .val (.long q3), .second, .val (.long q4), .second, .val (.int p5), .val (.long A), .second, .val (.long B), .second, .val (.long W), .second, .val (.long H), .second, .val (.int (1 : Int32)), .val (.double (own_r n)), .second, .unset, .unset, .unset, .unset, .unset, .unset, .unset, .unset] [(.double (0 : UInt64)), (.double (own_r n))]))
    refine OwnEnds.st (fun t k => XS.dcmpS X2.here hx rfl (hb hby at_82) rfl (own_chk hn1 hn2).1 k) ?_
    show OwnEnds _ _ _ _ _ _ _ (T2.setTop (mkF m 83 #[.val (.long q1), .second, .val (.long q2), .second, .val (.long q3), .second, .val (.long q4), .second, .val (.int p5), .val (.long A), .second, .val (.long B), .second, .val (.long W), .second, .val (.long H), .second, .val (.int (1 : Int32)), .val (.double (own_r n)), .second, .unset, .unset, .unset, .unset, .unset, .unset, .unset, .unset] [(.int (1 : Int32))]))
    refine OwnEnds.st (fun t k => XS.ifNo X2.here hx rfl (hb hby at_83) rfl ((if0 _ _).trans (flt ((by decide) : ¬ ((1 : Int32) < (0 : Int32)))).1) k) ?_
    show OwnEnds _ _ _ _ _ _ _ (T2.setTop (mkF m 86 #[.val (.long q1), .second, .val (.long q2), .second, .val (.long q3), .second, .val (.long q4), .second, .val (.int p5), .val (.long A), .second, .val (.long B), .second, .val (.long W), .second, .val (.long H), .second, .val (.int (1 : Int32)), .val (.double (own_r n)), .second, .unset, .unset, .unset, .unset, .unset, .unset, .unset, .unset] []))
    refine OwnEnds.st (fun t k => XS.dload X2.here hx rfl (hb hby at_86) rfl k) ?_
    show OwnEnds _ _ _ _ _ _ _ (T2.setTop (mkF m 88 #[.val (.long q1), .second, .val (.long q2), .second, .val (.long q3), .second, .val (.long q4), .second, .val (.int p5), .val (.long A), .second, .val (.long B), .second, .val (.long W), .second, .val (.long H), .second, .val (.int (1 : Int32)), .val (.double (own_r n)), .second, .unset, .unset, .unset, .unset, .unset, .unset, .unset, .unset] [(.double (own_r n))]))
    refine OwnEnds.st (fun t k => X2.ldc2DoubleC hx hown (mvT hZ (hw _ (List.mem_of_getElem? (i := 22) rfl))) (g := (mkF m 88 #[.val (.long q1), .second, .val (.long q2), .second, .val (.long q3), .second, .val (.long q4), .second, .val (.int p5), .val (.long A), .second, .val (.long B), .second, .val (.long W), .second, .val (.long H), .second, .val (.int (1 : Int32)), .val (.double (own_r n)), .second, .unset, .unset, .unset, .unset, .unset, .unset, .unset, .unset] [(.double (own_r n))])) rfl (hb hby at_88) t k) ?_
    show OwnEnds _ _ _ _ _ _ _ (T2.setTop (mkF m 91 #[.val (.long q1), .second, .val (.long q2), .second, .val (.long q3), .second, .val (.long q4), .second, .val (.int p5), .val (.long A), .second, .val (.long B), .second, .val (.long W), .second, .val (.long H), .second, .val (.int (1 : Int32)), .val (.double (own_r n)), .second, .unset, .unset, .unset, .unset, .unset, .unset, .unset, .unset] [(.double (4611686018427387904 : UInt64)), (.double (own_r n))]))
    refine OwnEnds.st (fun t k => XS.dcmpS X2.here hx rfl (hb hby at_91) rfl (own_chk hn1 hn2).2.1 k) ?_
    show OwnEnds _ _ _ _ _ _ _ (T2.setTop (mkF m 92 #[.val (.long q1), .second, .val (.long q2), .second, .val (.long q3), .second, .val (.long q4), .second, .val (.int p5), .val (.long A), .second, .val (.long B), .second, .val (.long W), .second, .val (.long H), .second, .val (.int (1 : Int32)), .val (.double (own_r n)), .second, .unset, .unset, .unset, .unset, .unset, .unset, .unset, .unset] [(.int (-1 : Int32))]))
    refine OwnEnds.st (fun t k => XS.ifYes X2.here hx rfl (pc0 := 92) (pc' := 97) rfl (hb hby at_92) rfl ((if0 _ _).trans (flt ((by decide) : ¬ ((0 : Int32) < (-1 : Int32)))).2.2.2) (by decide) (by decide) k) ?_
    show OwnEnds _ _ _ _ _ _ _ (T2.setTop (mkF m 97 #[.val (.long q1), .second, .val (.long q2), .second, .val (.long q3), .second, .val (.long q4), .second, .val (.int p5), .val (.long A), .second, .val (.long B), .second, .val (.long W), .second, .val (.long H), .second, .val (.int (1 : Int32)), .val (.double (own_r n)), .second, .unset, .unset, .unset, .unset, .unset, .unset, .unset, .unset] []))
    refine OwnEnds.st (fun t k => XS.dload X2.here hx rfl (hb hby at_97) rfl k) ?_
    show OwnEnds _ _ _ _ _ _ _ (T2.setTop (mkF m 99 #[.val (.long q1), .second, .val (.long q2), .second, .val (.long q3), .second, .val (.long q4), .second, .val (.int p5), .val (.long A), .second, .val (.long B), .second, .val (.long W), .second, .val (.long H), .second, .val (.int (1 : Int32)), .val (.double (own_r n)), .second, .unset, .unset, .unset, .unset, .unset, .unset, .unset, .unset] [(.double (own_r n))]))
    refine OwnEnds.st (fun t k => X2.ldc2DoubleC hx hown (mvT hZ (hw _ (List.mem_of_getElem? (i := 23) rfl))) (g := (mkF m 99 #[.val (.long q1), .second, .val (.long q2), .second, .val (.long q3), .second, .val (.long q4), .second, .val (.int p5), .val (.long A), .second, .val (.long B), .second, .val (.long W), .second, .val (.long H), .second, .val (.int (1 : Int32)), .val (.double (own_r n)), .second, .unset, .unset, .unset, .unset, .unset, .unset, .unset, .unset] [(.double (own_r n))])) rfl (hb hby at_99) t k) ?_
    show OwnEnds _ _ _ _ _ _ _ (T2.setTop (mkF m 102 #[.val (.long q1), .second, .val (.long q2), .second, .val (.long q3), .second, .val (.long q4), .second, .val (.int p5), .val (.long A), .second, .val (.long B), .second, .val (.long W), .second, .val (.long H), .second, .val (.int (1 : Int32)), .val (.double (own_r n)), .second, .unset, .unset, .unset, .unset, .unset, .unset, .unset, .unset] [(.double (4652007308841189376 : UInt64)), (.double (own_r n))]))
    refine OwnEnds.st (fun t k => XS.dmulS X2.here hx rfl (hb hby at_102) rfl (own_chk hn1 hn2).2.2.1 rfl k) ?_
    show OwnEnds _ _ _ _ _ _ _ (T2.setTop (mkF m 103 #[.val (.long q1), .second, .val (.long q2), .second, .val (.long q3), .second, .val (.long q4), .second, .val (.int p5), .val (.long A), .second, .val (.long B), .second, .val (.long W), .second, .val (.long H), .second, .val (.int (1 : Int32)), .val (.double (own_r n)), .second, .unset, .unset, .unset, .unset, .unset, .unset, .unset, .unset] [(.double (FP.dmul (own_r n) (4652007308841189376 : UInt64)))]))
    refine OwnEnds.st (fun t k => X2.ldc2DoubleC hx hown (mvT hZ (hw _ (List.mem_of_getElem? (i := 24) rfl))) (g := (mkF m 103 #[.val (.long q1), .second, .val (.long q2), .second, .val (.long q3), .second, .val (.long q4), .second, .val (.int p5), .val (.long A), .second, .val (.long B), .second, .val (.long W), .second, .val (.long H), .second, .val (.int (1 : Int32)), .val (.double (own_r n)), .second, .unset, .unset, .unset, .unset, .unset, .unset, .unset, .unset] [(.double (FP.dmul (own_r n) (4652007308841189376 : UInt64)))])) rfl (hb hby at_103) t k) ?_
    show OwnEnds _ _ _ _ _ _ _ (T2.setTop (mkF m 106 #[.val (.long q1), .second, .val (.long q2), .second, .val (.long q3), .second, .val (.long q4), .second, .val (.int p5), .val (.long A), .second, .val (.long B), .second, .val (.long W), .second, .val (.long H), .second, .val (.int (1 : Int32)), .val (.double (own_r n)), .second, .unset, .unset, .unset, .unset, .unset, .unset, .unset, .unset] [(.double (4602678819172646912 : UInt64)), (.double (FP.dmul (own_r n) (4652007308841189376 : UInt64)))]))
    refine OwnEnds.st (fun t k => XS.daddS X2.here hx rfl (hb hby at_106) rfl (own_chk hn1 hn2).2.2.2.1 rfl k) ?_
    show OwnEnds _ _ _ _ _ _ _ (T2.setTop (mkF m 107 #[.val (.long q1), .second, .val (.long q2), .second, .val (.long q3), .second, .val (.long q4), .second, .val (.int p5), .val (.long A), .second, .val (.long B), .second, .val (.long W), .second, .val (.long H), .second, .val (.int (1 : Int32)), .val (.double (own_r n)), .second, .unset, .unset, .unset, .unset, .unset, .unset, .unset, .unset] [(.double (FP.dadd (FP.dmul (own_r n) (4652007308841189376 : UInt64)) (4602678819172646912 : UInt64)))]))
    refine OwnEnds.st (fun t k => XS.d2lS X2.here hx rfl (hb hby at_107) rfl (own_chk hn1 hn2).2.2.2.2 k) ?_
    show OwnEnds _ _ _ _ _ _ _ (T2.setTop (mkF m 108 #[.val (.long q1), .second, .val (.long q2), .second, .val (.long q3), .second, .val (.long q4), .second, .val (.int p5), .val (.long A), .second, .val (.long B), .second, .val (.long W), .second, .val (.long H), .second, .val (.int (1 : Int32)), .val (.double (own_r n)), .second, .unset, .unset, .unset, .unset, .unset, .unset, .unset, .unset] [(.long n)]))
    refine OwnEnds.st (fun t k => XS.lstore X2.here hx rfl (hb hby at_108) rfl (l' := #[.val (.long q1), .second, .val (.long q2), .second, .val (.long q3), .second, .val (.long q4), .second, .val (.int p5), .val (.long A), .second, .val (.long B), .second, .val (.long W), .second, .val (.long H), .second, .val (.int (1 : Int32)), .val (.double (own_r n)), .second, .val (.long n), .second, .unset, .unset, .unset, .unset, .unset, .unset]) rfl k) ?_
    show OwnEnds _ _ _ _ _ _ _ (T2.setTop (mkF m 110 #[.val (.long q1), .second, .val (.long q2), .second, .val (.long q3), .second, .val (.long q4), .second, .val (.int p5), .val (.long A), .second, .val (.long B), .second, .val (.long W), .second, .val (.long H), .second, .val (.int (1 : Int32)), .val (.double (own_r n)), .second, .val (.long n), .second, .unset, .unset, .unset, .unset, .unset, .unset] []))
    refine OwnEnds.st (fun t k => XS.dload X2.here hx rfl (hb hby at_110) rfl k) ?_
    show OwnEnds _ _ _ _ _ _ _ (T2.setTop (mkF m 112 #[.val (.long q1), .second, .val (.long q2), .second, .val (.long q3), .second, .val (.long q4), .second, .val (.int p5), .val (.long A), .second, .val (.long B), .second, .val (.long W), .second, .val (.long H), .second, .val (.int (1 : Int32)), .val (.double (own_r n)), .second, .val (.long n), .second, .unset, .unset, .unset, .unset, .unset, .unset] [(.double (own_r n))]))
    refine OwnEnds.st (fun t k => XS.lload X2.here hx rfl (hb hby at_112) rfl k) ?_
    show OwnEnds _ _ _ _ _ _ _ (T2.setTop (mkF m 114 #[.val (.long q1), .second, .val (.long q2), .second, .val (.long q3), .second, .val (.long q4), .second, .val (.int p5), .val (.long A), .second, .val (.long B), .second, .val (.long W), .second, .val (.long H), .second, .val (.int (1 : Int32)), .val (.double (own_r n)), .second, .val (.long n), .second, .unset, .unset, .unset, .unset, .unset, .unset] [(.long n), (.double (own_r n))]))
    refine OwnEnds.st (fun t k => XS.l2dS X2.here hx rfl (hb hby at_114) rfl rfl k) ?_
    show OwnEnds _ _ _ _ _ _ _ (T2.setTop (mkF m 115 #[.val (.long q1), .second, .val (.long q2), .second, .val (.long q3), .second, .val (.long q4), .second, .val (.int p5), .val (.long A), .second, .val (.long B), .second, .val (.long W), .second, .val (.long H), .second, .val (.int (1 : Int32)), .val (.double (own_r n)), .second, .val (.long n), .second, .unset, .unset, .unset, .unset, .unset, .unset] [(.double (FP.l2d n)), (.double (own_r n))]))
    refine OwnEnds.st (fun t k => X2.ldc2DoubleC hx hown (mvT hZ (hw _ (List.mem_of_getElem? (i := 23) rfl))) (g := (mkF m 115 #[.val (.long q1), .second, .val (.long q2), .second, .val (.long q3), .second, .val (.long q4), .second, .val (.int p5), .val (.long A), .second, .val (.long B), .second, .val (.long W), .second, .val (.long H), .second, .val (.int (1 : Int32)), .val (.double (own_r n)), .second, .val (.long n), .second, .unset, .unset, .unset, .unset, .unset, .unset] [(.double (FP.l2d n)), (.double (own_r n))])) rfl (hb hby at_115) t k) ?_
    show OwnEnds _ _ _ _ _ _ _ (T2.setTop (mkF m 118 #[.val (.long q1), .second, .val (.long q2), .second, .val (.long q3), .second, .val (.long q4), .second, .val (.int p5), .val (.long A), .second, .val (.long B), .second, .val (.long W), .second, .val (.long H), .second, .val (.int (1 : Int32)), .val (.double (own_r n)), .second, .val (.long n), .second, .unset, .unset, .unset, .unset, .unset, .unset] [(.double (4652007308841189376 : UInt64)), (.double (FP.l2d n)), (.double (own_r n))]))
    refine OwnEnds.st (fun t k => XS.ddivS X2.here hx rfl (hb hby at_118) rfl (own_nn n) rfl k) ?_
    show OwnEnds _ _ _ _ _ _ _ (T2.setTop (mkF m 119 #[.val (.long q1), .second, .val (.long q2), .second, .val (.long q3), .second, .val (.long q4), .second, .val (.int p5), .val (.long A), .second, .val (.long B), .second, .val (.long W), .second, .val (.long H), .second, .val (.int (1 : Int32)), .val (.double (own_r n)), .second, .val (.long n), .second, .unset, .unset, .unset, .unset, .unset, .unset] [(.double (FP.ddiv (FP.l2d n) (4652007308841189376 : UInt64))), (.double (own_r n))]))
    refine OwnEnds.st (fun t k => XS.dcmpS X2.here hx rfl (hb hby at_119) rfl (own_rr n) k) ?_
    show OwnEnds _ _ _ _ _ _ _ (T2.setTop (mkF m 120 #[.val (.long q1), .second, .val (.long q2), .second, .val (.long q3), .second, .val (.long q4), .second, .val (.int p5), .val (.long A), .second, .val (.long B), .second, .val (.long W), .second, .val (.long H), .second, .val (.int (1 : Int32)), .val (.double (own_r n)), .second, .val (.long n), .second, .unset, .unset, .unset, .unset, .unset, .unset] [(.int (0 : Int32))]))
    refine OwnEnds.st (fun t k => XS.ifYes X2.here hx rfl (pc0 := 120) (pc' := 125) rfl (hb hby at_120) rfl ((if0 _ _).trans (teq (rfl : (0 : Int32) = (0 : Int32))).1) (by decide) (by decide) k) ?_
    show OwnEnds _ _ _ _ _ _ _ (T2.setTop (mkF m 125 #[.val (.long q1), .second, .val (.long q2), .second, .val (.long q3), .second, .val (.long q4), .second, .val (.int p5), .val (.long A), .second, .val (.long B), .second, .val (.long W), .second, .val (.long H), .second, .val (.int (1 : Int32)), .val (.double (own_r n)), .second, .val (.long n), .second, .unset, .unset, .unset, .unset, .unset, .unset] []))
    refine OwnEnds.st (fun t k => XS.lload X2.here hx rfl (hb hby at_125) rfl k) ?_
    show OwnEnds _ _ _ _ _ _ _ (T2.setTop (mkF m 127 #[.val (.long q1), .second, .val (.long q2), .second, .val (.long q3), .second, .val (.long q4), .second, .val (.int p5), .val (.long A), .second, .val (.long B), .second, .val (.long W), .second, .val (.long H), .second, .val (.int (1 : Int32)), .val (.double (own_r n)), .second, .val (.long n), .second, .unset, .unset, .unset, .unset, .unset, .unset] [(.long n)]))
    refine OwnEnds.st (fun t k => XS.iload X2.here hx rfl (hb hby at_127) rfl k) ?_
    show OwnEnds _ _ _ _ _ _ _ (T2.setTop (mkF m 129 #[.val (.long q1), .second, .val (.long q2), .second, .val (.long q3), .second, .val (.long q4), .second, .val (.int p5), .val (.long A), .second, .val (.long B), .second, .val (.long W), .second, .val (.long H), .second, .val (.int (1 : Int32)), .val (.double (own_r n)), .second, .val (.long n), .second, .unset, .unset, .unset, .unset, .unset, .unset] [(.int (1 : Int32)), (.long n)]))
    refine OwnEnds.st (fun t k => XS.ifNo X2.here hx rfl (hb hby at_129) rfl ((if0 _ _).trans (feq ((by decide) : ¬ ((1 : Int32) = (0 : Int32)))).1) k) ?_
    show OwnEnds _ _ _ _ _ _ _ (T2.setTop (mkF m 132 #[.val (.long q1), .second, .val (.long q2), .second, .val (.long q3), .second, .val (.long q4), .second, .val (.int p5), .val (.long A), .second, .val (.long B), .second, .val (.long W), .second, .val (.long H), .second, .val (.int (1 : Int32)), .val (.double (own_r n)), .second, .val (.long n), .second, .unset, .unset, .unset, .unset, .unset, .unset] [(.long n)]))
    refine OwnEnds.st (fun t k => X2.ldc2Long hx hown (mvT hZ (hw _ (List.mem_of_getElem? (i := 25) rfl))) (g := (mkF m 132 #[.val (.long q1), .second, .val (.long q2), .second, .val (.long q3), .second, .val (.long q4), .second, .val (.int p5), .val (.long A), .second, .val (.long B), .second, .val (.long W), .second, .val (.long H), .second, .val (.int (1 : Int32)), .val (.double (own_r n)), .second, .val (.long n), .second, .unset, .unset, .unset, .unset, .unset, .unset] [(.long n)])) rfl (hb hby at_132) t k) ?_
    show OwnEnds _ _ _ _ _ _ _ (T2.setTop (mkF m 135 #[.val (.long q1), .second, .val (.long q2), .second, .val (.long q3), .second, .val (.long q4), .second, .val (.int p5), .val (.long A), .second, .val (.long B), .second, .val (.long W), .second, .val (.long H), .second, .val (.int (1 : Int32)), .val (.double (own_r n)), .second, .val (.long n), .second, .unset, .unset, .unset, .unset, .unset, .unset] [(.long (500 : Int64)), (.long n)]))
    refine OwnEnds.st (fun t k => XS.goto X2.here hx rfl (pc0 := 135) (pc' := 139) rfl (hb hby at_135) (by decide) (by decide) k) ?_
    show OwnEnds _ _ _ _ _ _ _ (T2.setTop (mkF m 139 #[.val (.long q1), .second, .val (.long q2), .second, .val (.long q3), .second, .val (.long q4), .second, .val (.int p5), .val (.long A), .second, .val (.long B), .second, .val (.long W), .second, .val (.long H), .second, .val (.int (1 : Int32)), .val (.double (own_r n)), .second, .val (.long n), .second, .unset, .unset, .unset, .unset, .unset, .unset] [(.long (500 : Int64)), (.long n)]))
    refine OwnEnds.st (fun t k => XS.lsub X2.here hx rfl (hb hby at_139) rfl k) ?_
    show OwnEnds _ _ _ _ _ _ _ (T2.setTop (mkF m 140 #[.val (.long q1), .second, .val (.long q2), .second, .val (.long q3), .second, .val (.long q4), .second, .val (.int p5), .val (.long A), .second, .val (.long B), .second, .val (.long W), .second, .val (.long H), .second, .val (.int (1 : Int32)), .val (.double (own_r n)), .second, .val (.long n), .second, .unset, .unset, .unset, .unset, .unset, .unset] [(.long (n - (500 : Int64)))]))
    refine OwnEnds.st (fun t k => XS.lstore X2.here hx rfl (hb hby at_140) rfl (l' := #[.val (.long q1), .second, .val (.long q2), .second, .val (.long q3), .second, .val (.long q4), .second, .val (.int p5), .val (.long A), .second, .val (.long B), .second, .val (.long W), .second, .val (.long H), .second, .val (.int (1 : Int32)), .val (.double (own_r n)), .second, .val (.long n), .second, .val (.long (n - (500 : Int64))), .second, .unset, .unset, .unset, .unset]) rfl k) ?_
    show OwnEnds _ _ _ _ _ _ _ (T2.setTop (mkF m 142 #[.val (.long q1), .second, .val (.long q2), .second, .val (.long q3), .second, .val (.long q4), .second, .val (.int p5), .val (.long A), .second, .val (.long B), .second, .val (.long W), .second, .val (.long H), .second, .val (.int (1 : Int32)), .val (.double (own_r n)), .second, .val (.long n), .second, .val (.long (n - (500 : Int64))), .second, .unset, .unset, .unset, .unset] []))
    have hk : (n - (500 : Int64)) = own_k W A H B := by rw [← hn3, e_off]; rfl
    rw [hk]
    show OwnEnds _ _ _ _ _ _ _ (T2.setTop (mkF m 142 #[.val (.long q1), .second, .val (.long q2), .second, .val (.long q3), .second, .val (.long q4), .second, .val (.int p5), .val (.long A), .second, .val (.long B), .second, .val (.long W), .second, .val (.long H), .second, .val (.int (1 : Int32)), .val (.double (own_r n)), .second, .val (.long n), .second, .val (.long (own_k W A H B)), .second, .unset, .unset, .unset, .unset] []))
    refine OwnEnds.st (fun t k => XS.lload X2.here hx rfl (hb hby at_142) rfl k) ?_
    show OwnEnds _ _ _ _ _ _ _ (T2.setTop (mkF m 144 #[.val (.long q1), .second, .val (.long q2), .second, .val (.long q3), .second, .val (.long q4), .second, .val (.int p5), .val (.long A), .second, .val (.long B), .second, .val (.long W), .second, .val (.long H), .second, .val (.int (1 : Int32)), .val (.double (own_r n)), .second, .val (.long n), .second, .val (.long (own_k W A H B)), .second, .unset, .unset, .unset, .unset] [(.long (own_k W A H B))]))
    refine OwnEnds.st (fun t k => XS.lconst X2.here hx rfl (hb hby at_144) k) ?_
    show OwnEnds _ _ _ _ _ _ _ (T2.setTop (mkF m 145 #[.val (.long q1), .second, .val (.long q2), .second, .val (.long q3), .second, .val (.long q4), .second, .val (.int p5), .val (.long A), .second, .val (.long B), .second, .val (.long W), .second, .val (.long H), .second, .val (.int (1 : Int32)), .val (.double (own_r n)), .second, .val (.long n), .second, .val (.long (own_k W A H B)), .second, .unset, .unset, .unset, .unset] [(.long (1 : Int64)), (.long (own_k W A H B))]))
    refine OwnEnds.st (fun t k => XS.lcmp X2.here hx rfl (hb hby at_145) rfl k) ?_
    show OwnEnds _ _ _ _ _ _ _ (T2.setTop (mkF m 146 #[.val (.long q1), .second, .val (.long q2), .second, .val (.long q3), .second, .val (.long q4), .second, .val (.int p5), .val (.long A), .second, .val (.long B), .second, .val (.long W), .second, .val (.long H), .second, .val (.int (1 : Int32)), .val (.double (own_r n)), .second, .val (.long n), .second, .val (.long (own_k W A H B)), .second, .unset, .unset, .unset, .unset] [(.int (lcmpW (own_k W A H B) (1 : Int64)))]))
    refine OwnEnds.st (fun t k => XS.ifNo X2.here hx rfl (hb hby at_146) rfl ((if0 _ _).trans (flt (own_lcge (by rw [Int64.lt_iff_toInt_lt]; have q := (own_kk hB).1; show ¬ _ < (1 : Int); omega) : ¬ ((lcmpW (own_k W A H B) (1 : Int64)) < (0 : Int32)))).1) k) ?_
    show OwnEnds _ _ _ _ _ _ _ (T2.setTop (mkF m 149 #[.val (.long q1), .second, .val (.long q2), .second, .val (.long q3), .second, .val (.long q4), .second, .val (.int p5), .val (.long A), .second, .val (.long B), .second, .val (.long W), .second, .val (.long H), .second, .val (.int (1 : Int32)), .val (.double (own_r n)), .second, .val (.long n), .second, .val (.long (own_k W A H B)), .second, .unset, .unset, .unset, .unset] []))
    refine OwnEnds.st (fun t k => XS.lload X2.here hx rfl (hb hby at_149) rfl k) ?_
    show OwnEnds _ _ _ _ _ _ _ (T2.setTop (mkF m 151 #[.val (.long q1), .second, .val (.long q2), .second, .val (.long q3), .second, .val (.long q4), .second, .val (.int p5), .val (.long A), .second, .val (.long B), .second, .val (.long W), .second, .val (.long H), .second, .val (.int (1 : Int32)), .val (.double (own_r n)), .second, .val (.long n), .second, .val (.long (own_k W A H B)), .second, .unset, .unset, .unset, .unset] [(.long (own_k W A H B))]))
    refine OwnEnds.st (fun t k => X2.ldc2Long hx hown (mvT hZ (hw _ (List.mem_of_getElem? (i := 25) rfl))) (g := (mkF m 151 #[.val (.long q1), .second, .val (.long q2), .second, .val (.long q3), .second, .val (.long q4), .second, .val (.int p5), .val (.long A), .second, .val (.long B), .second, .val (.long W), .second, .val (.long H), .second, .val (.int (1 : Int32)), .val (.double (own_r n)), .second, .val (.long n), .second, .val (.long (own_k W A H B)), .second, .unset, .unset, .unset, .unset] [(.long (own_k W A H B))])) rfl (hb hby at_151) t k) ?_
    show OwnEnds _ _ _ _ _ _ _ (T2.setTop (mkF m 154 #[.val (.long q1), .second, .val (.long q2), .second, .val (.long q3), .second, .val (.long q4), .second, .val (.int p5), .val (.long A), .second, .val (.long B), .second, .val (.long W), .second, .val (.long H), .second, .val (.int (1 : Int32)), .val (.double (own_r n)), .second, .val (.long n), .second, .val (.long (own_k W A H B)), .second, .unset, .unset, .unset, .unset] [(.long (500 : Int64)), (.long (own_k W A H B))]))
    refine OwnEnds.st (fun t k => XS.lcmp X2.here hx rfl (hb hby at_154) rfl k) ?_
    show OwnEnds _ _ _ _ _ _ _ (T2.setTop (mkF m 155 #[.val (.long q1), .second, .val (.long q2), .second, .val (.long q3), .second, .val (.long q4), .second, .val (.int p5), .val (.long A), .second, .val (.long B), .second, .val (.long W), .second, .val (.long H), .second, .val (.int (1 : Int32)), .val (.double (own_r n)), .second, .val (.long n), .second, .val (.long (own_k W A H B)), .second, .unset, .unset, .unset, .unset] [(.int (lcmpW (own_k W A H B) (500 : Int64)))]))
    refine OwnEnds.st (fun t k => XS.ifYes X2.here hx rfl (pc0 := 155) (pc' := 160) rfl (hb hby at_155) rfl ((if0 _ _).trans (flt (own_lcle (by rw [Int64.lt_iff_toInt_lt]; have q := (own_kk hB).2.1; show ¬ (500 : Int) < _; omega) : ¬ ((0 : Int32) < (lcmpW (own_k W A H B) (500 : Int64))))).2.2.2) (by decide) (by decide) k) ?_
    show OwnEnds _ _ _ _ _ _ _ (T2.setTop (mkF m 160 #[.val (.long q1), .second, .val (.long q2), .second, .val (.long q3), .second, .val (.long q4), .second, .val (.int p5), .val (.long A), .second, .val (.long B), .second, .val (.long W), .second, .val (.long H), .second, .val (.int (1 : Int32)), .val (.double (own_r n)), .second, .val (.long n), .second, .val (.long (own_k W A H B)), .second, .unset, .unset, .unset, .unset] []))
    refine OwnEnds.st (fun t k => X2.ldc2Long hx hown (mvT hZ (hw _ (List.mem_of_getElem? (i := 25) rfl))) (g := (mkF m 160 #[.val (.long q1), .second, .val (.long q2), .second, .val (.long q3), .second, .val (.long q4), .second, .val (.int p5), .val (.long A), .second, .val (.long B), .second, .val (.long W), .second, .val (.long H), .second, .val (.int (1 : Int32)), .val (.double (own_r n)), .second, .val (.long n), .second, .val (.long (own_k W A H B)), .second, .unset, .unset, .unset, .unset] [])) rfl (hb hby at_160) t k) ?_
    show OwnEnds _ _ _ _ _ _ _ (T2.setTop (mkF m 163 #[.val (.long q1), .second, .val (.long q2), .second, .val (.long q3), .second, .val (.long q4), .second, .val (.int p5), .val (.long A), .second, .val (.long B), .second, .val (.long W), .second, .val (.long H), .second, .val (.int (1 : Int32)), .val (.double (own_r n)), .second, .val (.long n), .second, .val (.long (own_k W A H B)), .second, .unset, .unset, .unset, .unset] [(.long (500 : Int64))]))
    refine OwnEnds.st (fun t k => X2.ldc2Long hx hown (mvT hZ (hw _ (List.mem_of_getElem? (i := 26) rfl))) (g := (mkF m 163 #[.val (.long q1), .second, .val (.long q2), .second, .val (.long q3), .second, .val (.long q4), .second, .val (.int p5), .val (.long A), .second, .val (.long B), .second, .val (.long W), .second, .val (.long H), .second, .val (.int (1 : Int32)), .val (.double (own_r n)), .second, .val (.long n), .second, .val (.long (own_k W A H B)), .second, .unset, .unset, .unset, .unset] [(.long (500 : Int64))])) rfl (hb hby at_163) t k) ?_
    show OwnEnds _ _ _ _ _ _ _ (T2.setTop (mkF m 166 #[.val (.long q1), .second, .val (.long q2), .second, .val (.long q3), .second, .val (.long q4), .second, .val (.int p5), .val (.long A), .second, .val (.long B), .second, .val (.long W), .second, .val (.long H), .second, .val (.int (1 : Int32)), .val (.double (own_r n)), .second, .val (.long n), .second, .val (.long (own_k W A H B)), .second, .unset, .unset, .unset, .unset] [(.long (3 : Int64)), (.long (500 : Int64))]))
    refine OwnEnds.st (fun t k => XS.lload X2.here hx rfl (hb hby at_166) rfl k) ?_
    show OwnEnds _ _ _ _ _ _ _ (T2.setTop (mkF m 168 #[.val (.long q1), .second, .val (.long q2), .second, .val (.long q3), .second, .val (.long q4), .second, .val (.int p5), .val (.long A), .second, .val (.long B), .second, .val (.long W), .second, .val (.long H), .second, .val (.int (1 : Int32)), .val (.double (own_r n)), .second, .val (.long n), .second, .val (.long (own_k W A H B)), .second, .unset, .unset, .unset, .unset] [(.long W), (.long (3 : Int64)), (.long (500 : Int64))]))
    refine OwnEnds.st (fun t k => XS.lmul X2.here hx rfl (hb hby at_168) rfl k) ?_
    show OwnEnds _ _ _ _ _ _ _ (T2.setTop (mkF m 169 #[.val (.long q1), .second, .val (.long q2), .second, .val (.long q3), .second, .val (.long q4), .second, .val (.int p5), .val (.long A), .second, .val (.long B), .second, .val (.long W), .second, .val (.long H), .second, .val (.int (1 : Int32)), .val (.double (own_r n)), .second, .val (.long n), .second, .val (.long (own_k W A H B)), .second, .unset, .unset, .unset, .unset] [(.long ((3 : Int64) * W)), (.long (500 : Int64))]))
    refine OwnEnds.st (fun t k => XS.lload X2.here hx rfl (hb hby at_169) rfl k) ?_
    show OwnEnds _ _ _ _ _ _ _ (T2.setTop (mkF m 171 #[.val (.long q1), .second, .val (.long q2), .second, .val (.long q3), .second, .val (.long q4), .second, .val (.int p5), .val (.long A), .second, .val (.long B), .second, .val (.long W), .second, .val (.long H), .second, .val (.int (1 : Int32)), .val (.double (own_r n)), .second, .val (.long n), .second, .val (.long (own_k W A H B)), .second, .unset, .unset, .unset, .unset] [(.long B), (.long ((3 : Int64) * W)), (.long (500 : Int64))]))
    refine OwnEnds.st (fun t k => XS.lmul X2.here hx rfl (hb hby at_171) rfl k) ?_
    show OwnEnds _ _ _ _ _ _ _ (T2.setTop (mkF m 172 #[.val (.long q1), .second, .val (.long q2), .second, .val (.long q3), .second, .val (.long q4), .second, .val (.int p5), .val (.long A), .second, .val (.long B), .second, .val (.long W), .second, .val (.long H), .second, .val (.int (1 : Int32)), .val (.double (own_r n)), .second, .val (.long n), .second, .val (.long (own_k W A H B)), .second, .unset, .unset, .unset, .unset] [(.long (((3 : Int64) * W) * B)), (.long (500 : Int64))]))
    refine OwnEnds.st (fun t k => X2.ldc2Long hx hown (mvT hZ (hw _ (List.mem_of_getElem? (i := 1) rfl))) (g := (mkF m 172 #[.val (.long q1), .second, .val (.long q2), .second, .val (.long q3), .second, .val (.long q4), .second, .val (.int p5), .val (.long A), .second, .val (.long B), .second, .val (.long W), .second, .val (.long H), .second, .val (.int (1 : Int32)), .val (.double (own_r n)), .second, .val (.long n), .second, .val (.long (own_k W A H B)), .second, .unset, .unset, .unset, .unset] [(.long (((3 : Int64) * W) * B)), (.long (500 : Int64))])) rfl (hb hby at_172) t k) ?_
    show OwnEnds _ _ _ _ _ _ _ (T2.setTop (mkF m 175 #[.val (.long q1), .second, .val (.long q2), .second, .val (.long q3), .second, .val (.long q4), .second, .val (.int p5), .val (.long A), .second, .val (.long B), .second, .val (.long W), .second, .val (.long H), .second, .val (.int (1 : Int32)), .val (.double (own_r n)), .second, .val (.long n), .second, .val (.long (own_k W A H B)), .second, .unset, .unset, .unset, .unset] [(.long (2 : Int64)), (.long (((3 : Int64) * W) * B)), (.long (500 : Int64))]))
    refine OwnEnds.st (fun t k => XS.lload X2.here hx rfl (hb hby at_175) rfl k) ?_
    show OwnEnds _ _ _ _ _ _ _ (T2.setTop (mkF m 177 #[.val (.long q1), .second, .val (.long q2), .second, .val (.long q3), .second, .val (.long q4), .second, .val (.int p5), .val (.long A), .second, .val (.long B), .second, .val (.long W), .second, .val (.long H), .second, .val (.int (1 : Int32)), .val (.double (own_r n)), .second, .val (.long n), .second, .val (.long (own_k W A H B)), .second, .unset, .unset, .unset, .unset] [(.long H), (.long (2 : Int64)), (.long (((3 : Int64) * W) * B)), (.long (500 : Int64))]))
    refine OwnEnds.st (fun t k => XS.lmul X2.here hx rfl (hb hby at_177) rfl k) ?_
    show OwnEnds _ _ _ _ _ _ _ (T2.setTop (mkF m 178 #[.val (.long q1), .second, .val (.long q2), .second, .val (.long q3), .second, .val (.long q4), .second, .val (.int p5), .val (.long A), .second, .val (.long B), .second, .val (.long W), .second, .val (.long H), .second, .val (.int (1 : Int32)), .val (.double (own_r n)), .second, .val (.long n), .second, .val (.long (own_k W A H B)), .second, .unset, .unset, .unset, .unset] [(.long ((2 : Int64) * H)), (.long (((3 : Int64) * W) * B)), (.long (500 : Int64))]))
    refine OwnEnds.st (fun t k => XS.lload X2.here hx rfl (hb hby at_178) rfl k) ?_
    show OwnEnds _ _ _ _ _ _ _ (T2.setTop (mkF m 180 #[.val (.long q1), .second, .val (.long q2), .second, .val (.long q3), .second, .val (.long q4), .second, .val (.int p5), .val (.long A), .second, .val (.long B), .second, .val (.long W), .second, .val (.long H), .second, .val (.int (1 : Int32)), .val (.double (own_r n)), .second, .val (.long n), .second, .val (.long (own_k W A H B)), .second, .unset, .unset, .unset, .unset] [(.long A), (.long ((2 : Int64) * H)), (.long (((3 : Int64) * W) * B)), (.long (500 : Int64))]))
    refine OwnEnds.st (fun t k => XS.lmul X2.here hx rfl (hb hby at_180) rfl k) ?_
    show OwnEnds _ _ _ _ _ _ _ (T2.setTop (mkF m 181 #[.val (.long q1), .second, .val (.long q2), .second, .val (.long q3), .second, .val (.long q4), .second, .val (.int p5), .val (.long A), .second, .val (.long B), .second, .val (.long W), .second, .val (.long H), .second, .val (.int (1 : Int32)), .val (.double (own_r n)), .second, .val (.long n), .second, .val (.long (own_k W A H B)), .second, .unset, .unset, .unset, .unset] [(.long (((2 : Int64) * H) * A)), (.long (((3 : Int64) * W) * B)), (.long (500 : Int64))]))
    refine OwnEnds.st (fun t k => XS.ladd X2.here hx rfl (hb hby at_181) rfl k) ?_
    show OwnEnds _ _ _ _ _ _ _ (T2.setTop (mkF m 182 #[.val (.long q1), .second, .val (.long q2), .second, .val (.long q3), .second, .val (.long q4), .second, .val (.int p5), .val (.long A), .second, .val (.long B), .second, .val (.long W), .second, .val (.long H), .second, .val (.int (1 : Int32)), .val (.double (own_r n)), .second, .val (.long n), .second, .val (.long (own_k W A H B)), .second, .unset, .unset, .unset, .unset] [(.long ((((3 : Int64) * W) * B) + (((2 : Int64) * H) * A))), (.long (500 : Int64))]))
    refine OwnEnds.st (fun t k => XS.lmul X2.here hx rfl (hb hby at_182) rfl k) ?_
    show OwnEnds _ _ _ _ _ _ _ (T2.setTop (mkF m 183 #[.val (.long q1), .second, .val (.long q2), .second, .val (.long q3), .second, .val (.long q4), .second, .val (.int p5), .val (.long A), .second, .val (.long B), .second, .val (.long W), .second, .val (.long H), .second, .val (.int (1 : Int32)), .val (.double (own_r n)), .second, .val (.long n), .second, .val (.long (own_k W A H B)), .second, .unset, .unset, .unset, .unset] [(.long ((500 : Int64) * ((((3 : Int64) * W) * B) + (((2 : Int64) * H) * A))))]))
    refine OwnEnds.st (fun t k => XS.lstore X2.here hx rfl (hb hby at_183) rfl (l' := #[.val (.long q1), .second, .val (.long q2), .second, .val (.long q3), .second, .val (.long q4), .second, .val (.int p5), .val (.long A), .second, .val (.long B), .second, .val (.long W), .second, .val (.long H), .second, .val (.int (1 : Int32)), .val (.double (own_r n)), .second, .val (.long n), .second, .val (.long (own_k W A H B)), .second, .val (.long ((500 : Int64) * ((((3 : Int64) * W) * B) + (((2 : Int64) * H) * A)))), .second, .unset, .unset]) rfl k) ?_
    show OwnEnds _ _ _ _ _ _ _ (T2.setTop (mkF m 185 #[.val (.long q1), .second, .val (.long q2), .second, .val (.long q3), .second, .val (.long q4), .second, .val (.int p5), .val (.long A), .second, .val (.long B), .second, .val (.long W), .second, .val (.long H), .second, .val (.int (1 : Int32)), .val (.double (own_r n)), .second, .val (.long n), .second, .val (.long (own_k W A H B)), .second, .val (.long ((500 : Int64) * ((((3 : Int64) * W) * B) + (((2 : Int64) * H) * A)))), .second, .unset, .unset] []))
    refine OwnEnds.st (fun t k => X2.ldc2Long hx hown (mvT hZ (hw _ (List.mem_of_getElem? (i := 27) rfl))) (g := (mkF m 185 #[.val (.long q1), .second, .val (.long q2), .second, .val (.long q3), .second, .val (.long q4), .second, .val (.int p5), .val (.long A), .second, .val (.long B), .second, .val (.long W), .second, .val (.long H), .second, .val (.int (1 : Int32)), .val (.double (own_r n)), .second, .val (.long n), .second, .val (.long (own_k W A H B)), .second, .val (.long ((500 : Int64) * ((((3 : Int64) * W) * B) + (((2 : Int64) * H) * A)))), .second, .unset, .unset] [])) rfl (hb hby at_185) t k) ?_
    show OwnEnds _ _ _ _ _ _ _ (T2.setTop (mkF m 188 #[.val (.long q1), .second, .val (.long q2), .second, .val (.long q3), .second, .val (.long q4), .second, .val (.int p5), .val (.long A), .second, .val (.long B), .second, .val (.long W), .second, .val (.long H), .second, .val (.int (1 : Int32)), .val (.double (own_r n)), .second, .val (.long n), .second, .val (.long (own_k W A H B)), .second, .val (.long ((500 : Int64) * ((((3 : Int64) * W) * B) + (((2 : Int64) * H) * A)))), .second, .unset, .unset] [(.long (4 : Int64))]))
    refine OwnEnds.st (fun t k => XS.lload X2.here hx rfl (hb hby at_188) rfl k) ?_
    show OwnEnds _ _ _ _ _ _ _ (T2.setTop (mkF m 190 #[.val (.long q1), .second, .val (.long q2), .second, .val (.long q3), .second, .val (.long q4), .second, .val (.int p5), .val (.long A), .second, .val (.long B), .second, .val (.long W), .second, .val (.long H), .second, .val (.int (1 : Int32)), .val (.double (own_r n)), .second, .val (.long n), .second, .val (.long (own_k W A H B)), .second, .val (.long ((500 : Int64) * ((((3 : Int64) * W) * B) + (((2 : Int64) * H) * A)))), .second, .unset, .unset] [(.long A), (.long (4 : Int64))]))
    refine OwnEnds.st (fun t k => XS.lmul X2.here hx rfl (hb hby at_190) rfl k) ?_
    show OwnEnds _ _ _ _ _ _ _ (T2.setTop (mkF m 191 #[.val (.long q1), .second, .val (.long q2), .second, .val (.long q3), .second, .val (.long q4), .second, .val (.int p5), .val (.long A), .second, .val (.long B), .second, .val (.long W), .second, .val (.long H), .second, .val (.int (1 : Int32)), .val (.double (own_r n)), .second, .val (.long n), .second, .val (.long (own_k W A H B)), .second, .val (.long ((500 : Int64) * ((((3 : Int64) * W) * B) + (((2 : Int64) * H) * A)))), .second, .unset, .unset] [(.long ((4 : Int64) * A))]))
    refine OwnEnds.st (fun t k => XS.lload X2.here hx rfl (hb hby at_191) rfl k) ?_
    show OwnEnds _ _ _ _ _ _ _ (T2.setTop (mkF m 193 #[.val (.long q1), .second, .val (.long q2), .second, .val (.long q3), .second, .val (.long q4), .second, .val (.int p5), .val (.long A), .second, .val (.long B), .second, .val (.long W), .second, .val (.long H), .second, .val (.int (1 : Int32)), .val (.double (own_r n)), .second, .val (.long n), .second, .val (.long (own_k W A H B)), .second, .val (.long ((500 : Int64) * ((((3 : Int64) * W) * B) + (((2 : Int64) * H) * A)))), .second, .unset, .unset] [(.long B), (.long ((4 : Int64) * A))]))
    refine OwnEnds.st (fun t k => XS.lmul X2.here hx rfl (hb hby at_193) rfl k) ?_
    show OwnEnds _ _ _ _ _ _ _ (T2.setTop (mkF m 194 #[.val (.long q1), .second, .val (.long q2), .second, .val (.long q3), .second, .val (.long q4), .second, .val (.int p5), .val (.long A), .second, .val (.long B), .second, .val (.long W), .second, .val (.long H), .second, .val (.int (1 : Int32)), .val (.double (own_r n)), .second, .val (.long n), .second, .val (.long (own_k W A H B)), .second, .val (.long ((500 : Int64) * ((((3 : Int64) * W) * B) + (((2 : Int64) * H) * A)))), .second, .unset, .unset] [(.long (((4 : Int64) * A) * B))]))
    refine OwnEnds.st (fun t k => XS.lstore X2.here hx rfl (hb hby at_194) rfl (l' := #[.val (.long q1), .second, .val (.long q2), .second, .val (.long q3), .second, .val (.long q4), .second, .val (.int p5), .val (.long A), .second, .val (.long B), .second, .val (.long W), .second, .val (.long H), .second, .val (.int (1 : Int32)), .val (.double (own_r n)), .second, .val (.long n), .second, .val (.long (own_k W A H B)), .second, .val (.long ((500 : Int64) * ((((3 : Int64) * W) * B) + (((2 : Int64) * H) * A)))), .second, .val (.long (((4 : Int64) * A) * B)), .second]) rfl k) ?_
    show OwnEnds _ _ _ _ _ _ _ (T2.setTop (mkF m 196 #[.val (.long q1), .second, .val (.long q2), .second, .val (.long q3), .second, .val (.long q4), .second, .val (.int p5), .val (.long A), .second, .val (.long B), .second, .val (.long W), .second, .val (.long H), .second, .val (.int (1 : Int32)), .val (.double (own_r n)), .second, .val (.long n), .second, .val (.long (own_k W A H B)), .second, .val (.long ((500 : Int64) * ((((3 : Int64) * W) * B) + (((2 : Int64) * H) * A)))), .second, .val (.long (((4 : Int64) * A) * B)), .second] []))
    refine OwnEnds.st (fun t k => XS.lload X2.here hx rfl (hb hby at_196) rfl k) ?_
    show OwnEnds _ _ _ _ _ _ _ (T2.setTop (mkF m 198 #[.val (.long q1), .second, .val (.long q2), .second, .val (.long q3), .second, .val (.long q4), .second, .val (.int p5), .val (.long A), .second, .val (.long B), .second, .val (.long W), .second, .val (.long H), .second, .val (.int (1 : Int32)), .val (.double (own_r n)), .second, .val (.long n), .second, .val (.long (own_k W A H B)), .second, .val (.long ((500 : Int64) * ((((3 : Int64) * W) * B) + (((2 : Int64) * H) * A)))), .second, .val (.long (((4 : Int64) * A) * B)), .second] [(.long (own_k W A H B))]))
    refine OwnEnds.st (fun t k => XS.lconst X2.here hx rfl (hb hby at_198) k) ?_
    show OwnEnds _ _ _ _ _ _ _ (T2.setTop (mkF m 199 #[.val (.long q1), .second, .val (.long q2), .second, .val (.long q3), .second, .val (.long q4), .second, .val (.int p5), .val (.long A), .second, .val (.long B), .second, .val (.long W), .second, .val (.long H), .second, .val (.int (1 : Int32)), .val (.double (own_r n)), .second, .val (.long n), .second, .val (.long (own_k W A H B)), .second, .val (.long ((500 : Int64) * ((((3 : Int64) * W) * B) + (((2 : Int64) * H) * A)))), .second, .val (.long (((4 : Int64) * A) * B)), .second] [(.long (1 : Int64)), (.long (own_k W A H B))]))
    refine OwnEnds.st (fun t k => XS.lsub X2.here hx rfl (hb hby at_199) rfl k) ?_
    show OwnEnds _ _ _ _ _ _ _ (T2.setTop (mkF m 200 #[.val (.long q1), .second, .val (.long q2), .second, .val (.long q3), .second, .val (.long q4), .second, .val (.int p5), .val (.long A), .second, .val (.long B), .second, .val (.long W), .second, .val (.long H), .second, .val (.int (1 : Int32)), .val (.double (own_r n)), .second, .val (.long n), .second, .val (.long (own_k W A H B)), .second, .val (.long ((500 : Int64) * ((((3 : Int64) * W) * B) + (((2 : Int64) * H) * A)))), .second, .val (.long (((4 : Int64) * A) * B)), .second] [(.long ((own_k W A H B) - (1 : Int64)))]))
    refine OwnEnds.st (fun t k => XS.lload X2.here hx rfl (hb hby at_200) rfl k) ?_
    show OwnEnds _ _ _ _ _ _ _ (T2.setTop (mkF m 202 #[.val (.long q1), .second, .val (.long q2), .second, .val (.long q3), .second, .val (.long q4), .second, .val (.int p5), .val (.long A), .second, .val (.long B), .second, .val (.long W), .second, .val (.long H), .second, .val (.int (1 : Int32)), .val (.double (own_r n)), .second, .val (.long n), .second, .val (.long (own_k W A H B)), .second, .val (.long ((500 : Int64) * ((((3 : Int64) * W) * B) + (((2 : Int64) * H) * A)))), .second, .val (.long (((4 : Int64) * A) * B)), .second] [(.long (((4 : Int64) * A) * B)), (.long ((own_k W A H B) - (1 : Int64)))]))
    refine OwnEnds.st (fun t k => XS.lmul X2.here hx rfl (hb hby at_202) rfl k) ?_
    show OwnEnds _ _ _ _ _ _ _ (T2.setTop (mkF m 203 #[.val (.long q1), .second, .val (.long q2), .second, .val (.long q3), .second, .val (.long q4), .second, .val (.int p5), .val (.long A), .second, .val (.long B), .second, .val (.long W), .second, .val (.long H), .second, .val (.int (1 : Int32)), .val (.double (own_r n)), .second, .val (.long n), .second, .val (.long (own_k W A H B)), .second, .val (.long ((500 : Int64) * ((((3 : Int64) * W) * B) + (((2 : Int64) * H) * A)))), .second, .val (.long (((4 : Int64) * A) * B)), .second] [(.long (((own_k W A H B) - (1 : Int64)) * (((4 : Int64) * A) * B)))]))
    refine OwnEnds.st (fun t k => XS.lload X2.here hx rfl (hb hby at_203) rfl k) ?_
    show OwnEnds _ _ _ _ _ _ _ (T2.setTop (mkF m 205 #[.val (.long q1), .second, .val (.long q2), .second, .val (.long q3), .second, .val (.long q4), .second, .val (.int p5), .val (.long A), .second, .val (.long B), .second, .val (.long W), .second, .val (.long H), .second, .val (.int (1 : Int32)), .val (.double (own_r n)), .second, .val (.long n), .second, .val (.long (own_k W A H B)), .second, .val (.long ((500 : Int64) * ((((3 : Int64) * W) * B) + (((2 : Int64) * H) * A)))), .second, .val (.long (((4 : Int64) * A) * B)), .second] [(.long ((500 : Int64) * ((((3 : Int64) * W) * B) + (((2 : Int64) * H) * A)))), (.long (((own_k W A H B) - (1 : Int64)) * (((4 : Int64) * A) * B)))]))
    refine OwnEnds.st (fun t k => XS.lcmp X2.here hx rfl (hb hby at_205) rfl k) ?_
    show OwnEnds _ _ _ _ _ _ _ (T2.setTop (mkF m 206 #[.val (.long q1), .second, .val (.long q2), .second, .val (.long q3), .second, .val (.long q4), .second, .val (.int p5), .val (.long A), .second, .val (.long B), .second, .val (.long W), .second, .val (.long H), .second, .val (.int (1 : Int32)), .val (.double (own_r n)), .second, .val (.long n), .second, .val (.long (own_k W A H B)), .second, .val (.long ((500 : Int64) * ((((3 : Int64) * W) * B) + (((2 : Int64) * H) * A)))), .second, .val (.long (((4 : Int64) * A) * B)), .second] [(.int (lcmpW (((own_k W A H B) - (1 : Int64)) * (((4 : Int64) * A) * B)) ((500 : Int64) * ((((3 : Int64) * W) * B) + (((2 : Int64) * H) * A)))))]))
    refine OwnEnds.st (fun t k => XS.ifNo X2.here hx rfl (hb hby at_206) rfl ((if0 _ _).trans (tlt (own_lclt (own_end hB).1 : (lcmpW (((own_k W A H B) - (1 : Int64)) * (((4 : Int64) * A) * B)) ((500 : Int64) * ((((3 : Int64) * W) * B) + (((2 : Int64) * H) * A)))) < (0 : Int32))).2.1) k) ?_
    show OwnEnds _ _ _ _ _ _ _ (T2.setTop (mkF m 209 #[.val (.long q1), .second, .val (.long q2), .second, .val (.long q3), .second, .val (.long q4), .second, .val (.int p5), .val (.long A), .second, .val (.long B), .second, .val (.long W), .second, .val (.long H), .second, .val (.int (1 : Int32)), .val (.double (own_r n)), .second, .val (.long n), .second, .val (.long (own_k W A H B)), .second, .val (.long ((500 : Int64) * ((((3 : Int64) * W) * B) + (((2 : Int64) * H) * A)))), .second, .val (.long (((4 : Int64) * A) * B)), .second] []))
    refine OwnEnds.st (fun t k => XS.lload X2.here hx rfl (hb hby at_209) rfl k) ?_
    show OwnEnds _ _ _ _ _ _ _ (T2.setTop (mkF m 211 #[.val (.long q1), .second, .val (.long q2), .second, .val (.long q3), .second, .val (.long q4), .second, .val (.int p5), .val (.long A), .second, .val (.long B), .second, .val (.long W), .second, .val (.long H), .second, .val (.int (1 : Int32)), .val (.double (own_r n)), .second, .val (.long n), .second, .val (.long (own_k W A H B)), .second, .val (.long ((500 : Int64) * ((((3 : Int64) * W) * B) + (((2 : Int64) * H) * A)))), .second, .val (.long (((4 : Int64) * A) * B)), .second] [(.long ((500 : Int64) * ((((3 : Int64) * W) * B) + (((2 : Int64) * H) * A))))]))
    refine OwnEnds.st (fun t k => XS.lload X2.here hx rfl (hb hby at_211) rfl k) ?_
    show OwnEnds _ _ _ _ _ _ _ (T2.setTop (mkF m 213 #[.val (.long q1), .second, .val (.long q2), .second, .val (.long q3), .second, .val (.long q4), .second, .val (.int p5), .val (.long A), .second, .val (.long B), .second, .val (.long W), .second, .val (.long H), .second, .val (.int (1 : Int32)), .val (.double (own_r n)), .second, .val (.long n), .second, .val (.long (own_k W A H B)), .second, .val (.long ((500 : Int64) * ((((3 : Int64) * W) * B) + (((2 : Int64) * H) * A)))), .second, .val (.long (((4 : Int64) * A) * B)), .second] [(.long (own_k W A H B)), (.long ((500 : Int64) * ((((3 : Int64) * W) * B) + (((2 : Int64) * H) * A))))]))
    refine OwnEnds.st (fun t k => XS.lload X2.here hx rfl (hb hby at_213) rfl k) ?_
    show OwnEnds _ _ _ _ _ _ _ (T2.setTop (mkF m 215 #[.val (.long q1), .second, .val (.long q2), .second, .val (.long q3), .second, .val (.long q4), .second, .val (.int p5), .val (.long A), .second, .val (.long B), .second, .val (.long W), .second, .val (.long H), .second, .val (.int (1 : Int32)), .val (.double (own_r n)), .second, .val (.long n), .second, .val (.long (own_k W A H B)), .second, .val (.long ((500 : Int64) * ((((3 : Int64) * W) * B) + (((2 : Int64) * H) * A)))), .second, .val (.long (((4 : Int64) * A) * B)), .second] [(.long (((4 : Int64) * A) * B)), (.long (own_k W A H B)), (.long ((500 : Int64) * ((((3 : Int64) * W) * B) + (((2 : Int64) * H) * A))))]))
    refine OwnEnds.st (fun t k => XS.lmul X2.here hx rfl (hb hby at_215) rfl k) ?_
    show OwnEnds _ _ _ _ _ _ _ (T2.setTop (mkF m 216 #[.val (.long q1), .second, .val (.long q2), .second, .val (.long q3), .second, .val (.long q4), .second, .val (.int p5), .val (.long A), .second, .val (.long B), .second, .val (.long W), .second, .val (.long H), .second, .val (.int (1 : Int32)), .val (.double (own_r n)), .second, .val (.long n), .second, .val (.long (own_k W A H B)), .second, .val (.long ((500 : Int64) * ((((3 : Int64) * W) * B) + (((2 : Int64) * H) * A)))), .second, .val (.long (((4 : Int64) * A) * B)), .second] [(.long ((own_k W A H B) * (((4 : Int64) * A) * B))), (.long ((500 : Int64) * ((((3 : Int64) * W) * B) + (((2 : Int64) * H) * A))))]))
    refine OwnEnds.st (fun t k => XS.lcmp X2.here hx rfl (hb hby at_216) rfl k) ?_
    show OwnEnds _ _ _ _ _ _ _ (T2.setTop (mkF m 217 #[.val (.long q1), .second, .val (.long q2), .second, .val (.long q3), .second, .val (.long q4), .second, .val (.int p5), .val (.long A), .second, .val (.long B), .second, .val (.long W), .second, .val (.long H), .second, .val (.int (1 : Int32)), .val (.double (own_r n)), .second, .val (.long n), .second, .val (.long (own_k W A H B)), .second, .val (.long ((500 : Int64) * ((((3 : Int64) * W) * B) + (((2 : Int64) * H) * A)))), .second, .val (.long (((4 : Int64) * A) * B)), .second] [(.int (lcmpW ((500 : Int64) * ((((3 : Int64) * W) * B) + (((2 : Int64) * H) * A))) ((own_k W A H B) * (((4 : Int64) * A) * B))))]))
    refine OwnEnds.st (fun t k => XS.ifNo X2.here hx rfl (hb hby at_217) rfl ((if0 _ _).trans (flt (own_lcle (own_end hB).2 : ¬ ((0 : Int32) < (lcmpW ((500 : Int64) * ((((3 : Int64) * W) * B) + (((2 : Int64) * H) * A))) ((own_k W A H B) * (((4 : Int64) * A) * B)))))).2.2.1) k) ?_
    show OwnEnds _ _ _ _ _ _ _ (T2.setTop (mkF m 220 #[.val (.long q1), .second, .val (.long q2), .second, .val (.long q3), .second, .val (.long q4), .second, .val (.int p5), .val (.long A), .second, .val (.long B), .second, .val (.long W), .second, .val (.long H), .second, .val (.int (1 : Int32)), .val (.double (own_r n)), .second, .val (.long n), .second, .val (.long (own_k W A H B)), .second, .val (.long ((500 : Int64) * ((((3 : Int64) * W) * B) + (((2 : Int64) * H) * A)))), .second, .val (.long (((4 : Int64) * A) * B)), .second] []))
    refine OwnEnds.st (fun t k => XS.iconst X2.here hx rfl (hb hby at_220) k) ?_
    show OwnEnds _ _ _ _ _ _ _ (T2.setTop (mkF m 221 #[.val (.long q1), .second, .val (.long q2), .second, .val (.long q3), .second, .val (.long q4), .second, .val (.int p5), .val (.long A), .second, .val (.long B), .second, .val (.long W), .second, .val (.long H), .second, .val (.int (1 : Int32)), .val (.double (own_r n)), .second, .val (.long n), .second, .val (.long (own_k W A H B)), .second, .val (.long ((500 : Int64) * ((((3 : Int64) * W) * B) + (((2 : Int64) * H) * A)))), .second, .val (.long (((4 : Int64) * A) * B)), .second] [(.int (1 : Int32))]))
    refine OwnEnds.st (fun t k => XS.goto X2.here hx rfl (pc0 := 221) (pc' := 225) rfl (hb hby at_221) (by decide) (by decide) k) ?_
    show OwnEnds _ _ _ _ _ _ _ (T2.setTop (mkF m 225 #[.val (.long q1), .second, .val (.long q2), .second, .val (.long q3), .second, .val (.long q4), .second, .val (.int p5), .val (.long A), .second, .val (.long B), .second, .val (.long W), .second, .val (.long H), .second, .val (.int (1 : Int32)), .val (.double (own_r n)), .second, .val (.long n), .second, .val (.long (own_k W A H B)), .second, .val (.long ((500 : Int64) * ((((3 : Int64) * W) * B) + (((2 : Int64) * H) * A)))), .second, .val (.long (((4 : Int64) * A) * B)), .second] [(.int (1 : Int32))]))
    refine own_retN (t := .boolean) X2 hx Bd.returns Bd.notSynchronized (by simp) (hb hby at_225) ?_ (by decide) (by decide)
    show Q0 Z q1 q2 q3 q4 p5 h0 n0 _ T2.heap _
    rw [hh2]
    exact ⟨rfl, N2⟩
set_option maxRecDepth 65536 in
set_option maxHeartbeats 40000000 in
theorem comes_1 {Post : Tables → Env → Array Value → State → Outcome → State → Prop} (hpost : ∀ tb e args s v u, (limb_1_1.after args s (.returned v) u = true ∧ limb_1_2.after args s (.returned v) u = true ∧ True) → FrameEnd s (.returned v) u (Jvm.fieldLocs frame_1_writes args s ++ Jvm.arrayLocs frame_1_arrays args s ++ Jvm.staticLocs frame_1_statics s) 0 0 → Post tb e args s (.returned v) u) :
    ArmFor flags0 classFile x code maxLocals ret World_1 tables_1 room_1 Calls_1 rest_1 Pre_1 Post := by
  intro l hfl _ _ p e ha hc hk s m args below hf hA hF happ hP
  obtain ⟨hcalls, hrest, hpre⟩ := hP
  obtain ⟨-, -, -, hnamed, -, -, -, hat⟩ := (Spec.applies_iff hf).mp happ
  obtain ⟨hg, hn⟩ := and_e (Cond.before_iff.mp (show (Jvm.Cond.and given_1 narrow_1).before args s = true from hpre))
  obtain ⟨hcount, ga0⟩ := and_e hg
  obtain ⟨gb0, ga1⟩ := and_e ga0
  obtain ⟨gb1, ga2⟩ := and_e ga1
  obtain ⟨gb2, ga3⟩ := and_e ga2
  obtain ⟨gb3, ga4⟩ := and_e ga3
  obtain ⟨w0, w1, w2, w3, w4, rfl⟩ : ∃ w0 w1 w2 w3 w4 : Value, args = #[w0, w1, w2, w3, w4] := by
    have hs : args.size = 5 := by simpa [Cond.value, given_1] using hcount
    obtain ⟨L⟩ := args
    match L, hs with
    | [w0, w1, w2, w3, w4], _ => exact ⟨w0, w1, w2, w3, w4, rfl⟩
  have hw := fun d (hd : d ∈ tables_1) => atoms_spec (ws := Jvm.Cond.code x code maxLocals ret :: tables_1) hat d (List.mem_cons_of_mem _ hd)
  have hfit : Fit s := fun {y c} hc i hi => by
    obtain ⟨ha, rfl⟩ := Array.getElem?_eq_some_iff.mp hc
    have q := List.all_eq_true.mp ((Array.all_eq_true_iff_forall_mem.mp hF) _ (Array.getElem_mem ha)) i (List.mem_range.mpr hi)
    simpa [Array.getElem?_eq_getElem hi] using q
  obtain ⟨i0, ei0⟩ := isL_v gb0
  obtain rfl : w0 = (.long i0) := Option.some.inj ei0
  obtain ⟨i1, ei1⟩ := isL_v gb1
  obtain rfl : w1 = (.long i1) := Option.some.inj ei1
  obtain ⟨i2, ei2⟩ := isL_v gb2
  obtain rfl : w2 = (.long i2) := Option.some.inj ei2
  obtain ⟨i3, ei3⟩ := isL_v gb3
  obtain rfl : w3 = (.long i3) := Option.some.inj ei3
  obtain ⟨i4, ei4⟩ := is_v ga4
  obtain rfl : w4 = (.int i4) := Option.some.inj ei4
  obtain ⟨n, o, h1, h2, h3, _, L, rfl, ⟨rfl, N⟩, hq⟩ := rm0 l s _ hw tables_1 i0 i1 i2 i3 i4 s.heap s.heap.size (Nat.le_refl _) p e ha hc hk s m _ below hf ((Spec.applies_iff_loose hf).mp happ).1 ⟨rfl, State.Warmed39.refl s, rfl⟩ trivial
  refine ⟨n, _, h1, h2, h3, hpost _ _ _ _ _ _ ⟨Cond.after_iff.mpr rfl, Cond.after_iff.mpr (eq_i res_at (Term.int_eval (1)) rfl), trivial⟩ ⟨hq.1, hq.2.1, (hq.2.2.sift fun y hy => Or.inr (N y hy)).mono (by decide) (by decide)⟩⟩
theorem main_1_1 : Claimed_1_1 := comes_1 fun _ _ _ _ _ _ h hF => ⟨h.1, hF⟩
theorem main_1_2 : Claimed_1_2 := comes_1 fun _ _ _ _ _ _ h hF => ⟨h.2.1, hF⟩
end Jvm.Pilot.@@N@@
namespace Jvm.Pilot.@@N@@
open Jvm Jvm.ClassFile Sem Op Lib Jvm.Free Jvm.Stand Jvm.Pilot.@@N@@.Jvm.D
/-! MADE BY PROGRAM (witnessworld.py) out of the Statement's table words and the real class files: 10 classes; the members and pool entries that the words name. The judged class is class 1, her method 1. -/
namespace start1
open Jvm.ClassFile
def u (s : String) : CpInfo := .utf8 (stringToUtf16 s)
/-- a pool by its gaps: so many unusable entries, then the entry; so many at the end -/
def gap : Nat → List CpInfo → List CpInfo
  | 0, r => r
  | n + 1, r => .unusable :: gap n r
def poolList (es : List (Nat × CpInfo)) (last : Nat) : List CpInfo := es.foldr (fun e r => gap e.1 (e.2 :: r)) (gap last [])
def pool (es : List (Nat × CpInfo)) (last : Nat) : Array CpInfo := ⟨poolList es last⟩
def fileOf (pool : Array CpInfo) (this : Nat) (attrs : Array Attribute := #[]) (ms : Array MethodInfo := #[]) (fl : Nat := 33) (sup : Nat := 0) (ifs : Array Nat := #[]) (fds : Array FieldInfo := #[]) : ClassFile where
  minorVersion := 0
  majorVersion := 65
  constantPool := pool
  accessFlags := fl
  thisClass := this
  superClass := sup
  interfaces := ifs
  fields := fds
  methods := ms
  attributes := attrs
def plain (name : String) (sup : Option ClassId) : Class where
  name := name
  kind := .ordinary
  loader := none
  accessFlags := 33
  super := sup
  interfaces := #[]
  cf := none
  fields := #[]
  methods := #[]
  instanceTypes := #[]
  staticTypes := #[]
  resolved := #[]
  callSites := []
  init := .initialized
  statics := none
  mirror := none

def pool0 : Array CpInfo := pool [(5, u "<init>"), (0, u "()V"), (1, .class_ 10), (1, u "java/lang/Object")] 113

def k0m0 : Method := { name := "<init>", desc := "()V", sig := { parameters := [], returnType := none }, accessFlags := 1, code := none }
/-- java/lang/Object -/
def k0 : Class := { plain "java/lang/Object" none with
  accessFlags := 33
  interfaces := #[]
  cf := some (fileOf pool0 8 #[] #[{ accessFlags := 1, nameIndex := 5, descriptorIndex := 6, attributes := #[] }] 33 0 #[] #[])
  fields := #[]
  methods := #[k0m0]
  instanceTypes := #[]
  staticTypes := #[]
  resolved := Array.replicate 124 none
  statics := none }

def pool1 : Array CpInfo := pool [(2, .class_ 4), (1, u "java/lang/Object"), (0, u "<init>"), (0, u "()V"), (0, .long 16777215), (1, .long 2), (1, .long 9223372036854775807), (1, .methodref 14 15), (0, .class_ 16), (0, .nameAndType 17 18), (0, u "com/example/equate/equate/mathml/Likeness"), (0, u "likeness"), (0, u "(ZJJJJ)D"), (0, .double 4611686018427387904), (1, .double 4652007308841189376), (1, .double 4602678819172646912), (1, .long 500), (1, .long 3), (1, .long 4), (1, .class_ 32), (0, u "com/example/equate/equate/mathml/LikenessLikenessPinLaw"), (2, u "law"), (0, u "(JJJJI)Z")] 3

def k1m0 : Method := { name := "<init>", desc := "()V", sig := { parameters := [], returnType := none }, accessFlags := 2, code := none }
def k1c1 : Code := { maxStack := 9, maxLocals := 28, code := code, exceptionTable := #[], attributes := #[] }
def k1m1 : Method := { name := "law", desc := "(JJJJI)Z", sig := { parameters := [.long, .long, .long, .long, .int], returnType := some .boolean }, accessFlags := 9, code := some k1c1 }
/-- com/example/equate/equate/mathml/LikenessLikenessPinLaw -/
def k1 : Class := { plain "com/example/equate/equate/mathml/LikenessLikenessPinLaw" (some 0) with
  accessFlags := 49
  interfaces := #[]
  cf := some (fileOf pool1 31 #[] #[{ accessFlags := 2, nameIndex := 5, descriptorIndex := 6, attributes := #[] }, { accessFlags := 9, nameIndex := 35, descriptorIndex := 36, attributes := #[] }] 49 2 #[] #[])
  fields := #[]
  methods := #[k1m0, k1m1]
  instanceTypes := #[]
  staticTypes := #[]
  resolved := Array.replicate 40 none
  statics := none }

def pool2 : Array CpInfo := pool [(2, .class_ 4), (1, u "java/lang/Object"), (0, u "<init>"), (0, u "()V"), (0, .class_ 8), (0, u "com/example/equate/equate/mathml/Likeness$Tree"), (58, .class_ 69), (1, u "java/lang/Math"), (2, .class_ 73), (0, u "com/example/equate/equate/mathml/Likeness"), (5, .class_ 81), (1, u "com/example/equate/equate/mathml/Likeness$Laying"), (17, u "likeness"), (0, u "(ZJJJJ)D"), (0, .long 500), (1, .long 3), (1, .methodref 67 106), (0, .nameAndType 107 108), (0, u "multiplyExact"), (0, u "(JJ)J"), (0, .long 2), (1, .methodref 67 112), (0, .nameAndType 113 108), (0, u "addExact"), (0, .long 4), (1, .double 4652007308841189376), (24, u "NOTHING_SHARED"), (0, u "D"), (3, u "STEPS"), (0, u "I")] 17

def k2m0 : Method := { name := "<init>", desc := "()V", sig := { parameters := [], returnType := none }, accessFlags := 2, code := none }
def k2c1 : Code := { maxStack := 8, maxLocals := 15, code := prog_25_method_3_code, exceptionTable := #[], attributes := #[] }
def k2m1 : Method := { name := "likeness", desc := "(ZJJJJ)D", sig := { parameters := [.boolean, .long, .long, .long, .long], returnType := some .double }, accessFlags := 8, code := some k2c1 }
/-- com/example/equate/equate/mathml/Likeness -/
def k2 : Class := { plain "com/example/equate/equate/mathml/Likeness" (some 0) with
  accessFlags := 49
  interfaces := #[]
  cf := some (fileOf pool2 72 #[.nestMembers #[7, 79]] #[{ accessFlags := 2, nameIndex := 5, descriptorIndex := 6, attributes := #[] }, { accessFlags := 8, nameIndex := 99, descriptorIndex := 100, attributes := #[] }] 49 2 #[] #[{ accessFlags := 25, nameIndex := 141, descriptorIndex := 142, attributes := #[] }, { accessFlags := 26, nameIndex := 146, descriptorIndex := 147, attributes := #[] }])
  fields := #[{ name := "NOTHING_SHARED", type := .double, accessFlags := 25, slot := 0, constantValue := 0 }, { name := "STEPS", type := .int, accessFlags := 26, slot := 1, constantValue := 0 }]
  methods := #[k2m0, k2m1]
  instanceTypes := #[]
  staticTypes := #[.double, .int]
  resolved := Array.replicate 165 none
  statics := none }

def pool3 : Array CpInfo := pool [(1, .class_ 2), (0, u "java/lang/Math"), (1, .class_ 6), (1, u "java/lang/Object"), (0, u "<init>"), (0, u "()V"), (89, .class_ 100), (1, u "java/lang/Math$RandomNumberGeneratorHolder"), (19, u "multiplyExact"), (0, u "(JJ)J"), (0, .methodref 1 123), (0, .nameAndType 124 125), (0, u "abs"), (0, u "(J)J"), (2, .long 9223372036854775808), (43, u "negativeZeroFloatBits"), (0, u "J"), (2, u "negativeZeroDoubleBits"), (68, u "$assertionsDisabled"), (0, u "Z"), (91, u "twoToTheDoubleScaleDown"), (0, u "D"), (4, u "twoToTheDoubleScaleUp"), (9, u "E"), (3, u "PI"), (2, u "TAU"), (2, u "DEGREES_TO_RADIANS"), (0, u "RADIANS_TO_DEGREES"), (27, u "addExact")] 66

def k3m0 : Method := { name := "<init>", desc := "()V", sig := { parameters := [], returnType := none }, accessFlags := 2, code := none }
def k3c1 : Code := { maxStack := 6, maxLocals := 6, code := jdk_29_method_25_code, exceptionTable := #[], attributes := #[] }
def k3m1 : Method := { name := "addExact", desc := "(JJ)J", sig := { parameters := [.long, .long], returnType := some .long }, accessFlags := 9, code := some k3c1 }
def k3c2 : Code := { maxStack := 4, maxLocals := 10, code := jdk_29_method_30_code, exceptionTable := #[], attributes := #[] }
def k3m2 : Method := { name := "multiplyExact", desc := "(JJ)J", sig := { parameters := [.long, .long], returnType := some .long }, accessFlags := 9, code := some k3c2 }
def k3c3 : Code := { maxStack := 4, maxLocals := 2, code := jdk_29_method_61_code, exceptionTable := #[], attributes := #[] }
def k3m3 : Method := { name := "abs", desc := "(J)J", sig := { parameters := [.long], returnType := some .long }, accessFlags := 9, code := some k3c3 }
/-- java/lang/Math -/
def k3 : Class := { plain "java/lang/Math" (some 0) with
  accessFlags := 49
  interfaces := #[]
  cf := some (fileOf pool3 1 #[.nestMembers #[98]] #[{ accessFlags := 2, nameIndex := 7, descriptorIndex := 8, attributes := #[] }, { accessFlags := 9, nameIndex := 393, descriptorIndex := 121, attributes := #[] }, { accessFlags := 9, nameIndex := 120, descriptorIndex := 121, attributes := #[] }, { accessFlags := 9, nameIndex := 124, descriptorIndex := 125, attributes := #[] }] 49 4 #[] #[{ accessFlags := 25, nameIndex := 354, descriptorIndex := 339, attributes := #[] }, { accessFlags := 25, nameIndex := 358, descriptorIndex := 339, attributes := #[] }, { accessFlags := 25, nameIndex := 361, descriptorIndex := 339, attributes := #[] }, { accessFlags := 26, nameIndex := 364, descriptorIndex := 339, attributes := #[] }, { accessFlags := 26, nameIndex := 365, descriptorIndex := 339, attributes := #[] }, { accessFlags := 26, nameIndex := 172, descriptorIndex := 173, attributes := #[] }, { accessFlags := 26, nameIndex := 176, descriptorIndex := 173, attributes := #[] }, { accessFlags := 8, nameIndex := 344, descriptorIndex := 339, attributes := #[] }, { accessFlags := 8, nameIndex := 338, descriptorIndex := 339, attributes := #[] }, { accessFlags := 4120, nameIndex := 245, descriptorIndex := 246, attributes := #[] }])
  fields := #[{ name := "E", type := .double, accessFlags := 25, slot := 0, constantValue := 0 }, { name := "PI", type := .double, accessFlags := 25, slot := 1, constantValue := 0 }, { name := "TAU", type := .double, accessFlags := 25, slot := 2, constantValue := 0 }, { name := "DEGREES_TO_RADIANS", type := .double, accessFlags := 26, slot := 3, constantValue := 0 }, { name := "RADIANS_TO_DEGREES", type := .double, accessFlags := 26, slot := 4, constantValue := 0 }, { name := "negativeZeroFloatBits", type := .long, accessFlags := 26, slot := 5, constantValue := 0 }, { name := "negativeZeroDoubleBits", type := .long, accessFlags := 26, slot := 6, constantValue := 0 }, { name := "twoToTheDoubleScaleUp", type := .double, accessFlags := 8, slot := 7, constantValue := 0 }, { name := "twoToTheDoubleScaleDown", type := .double, accessFlags := 8, slot := 8, constantValue := 0 }, { name := "$assertionsDisabled", type := .boolean, accessFlags := 4120, slot := 9, constantValue := 0 }]
  methods := #[k3m0, k3m1, k3m2, k3m3]
  instanceTypes := #[]
  staticTypes := #[.double, .double, .double, .double, .double, .long, .long, .double, .double, .boolean]
  resolved := Array.replicate 460 none
  statics := none }

def pool4 : Array CpInfo := pool [(1, u "java/lang/Cloneable"), (0, .class_ 1), (0, u "java/lang/Object"), (0, .class_ 3)] 3

/-- java/lang/Cloneable -/
def k4 : Class := { plain "java/lang/Cloneable" (some 0) with
  accessFlags := 1537
  interfaces := #[]
  cf := some (fileOf pool4 2 #[] #[] 1537 4 #[] #[])
  fields := #[]
  methods := #[]
  instanceTypes := #[]
  staticTypes := #[]
  resolved := Array.replicate 8 none
  statics := none }

def pool5 : Array CpInfo := pool [(1, u "java/io/Serializable"), (0, .class_ 1), (0, u "java/lang/Object"), (0, .class_ 3)] 3

/-- java/io/Serializable -/
def k5 : Class := { plain "java/io/Serializable" (some 0) with
  accessFlags := 1537
  interfaces := #[]
  cf := some (fileOf pool5 2 #[] #[] 1537 4 #[] #[])
  fields := #[]
  methods := #[]
  instanceTypes := #[]
  staticTypes := #[]
  resolved := Array.replicate 8 none
  statics := none }

/-- the primitive byte -/
def k6 : Class := { plain "byte" none with kind := .primitive 'B', accessFlags := 0x411 }
/-- [B -/
def k7 : Class := { plain "[B" (some 0) with kind := .array 6 .byte, interfaces := #[4, 5], accessFlags := 1041 }

/-- the primitive int -/
def k8 : Class := { plain "int" none with kind := .primitive 'I', accessFlags := 0x411 }
/-- [I -/
def k9 : Class := { plain "[I" (some 0) with kind := .array 8 .int, interfaces := #[4, 5], accessFlags := 1041 }

def heap : Heap := #[]
def classes : Array Class := #[k0, k1, k2, k3, k4, k5, k6, k7, k8, k9]
def interned : List (Array UInt16 × Addr) := []
def slotsUsed : Nat := 0
def theMethod : MethodId := ⟨1, 1⟩
def args0 : Array Value := #[.long 5, .long 7, .long 3, .long 2, .int 1]
def aboutOver (below : List Frame) : State where
  vm := { classes := classes, interned := interned.toArray }
  heap := heap
  slotsUsed := slotsUsed
  threads := #[{ frames := .invoking theMethod args0 :: below }]
def below0 : List Frame := [.native { method := ⟨0, 0⟩, args := #[] }]
def about1 : State := aboutOver below0
def p0 : Program := .bare "" "" ""
def e0 : Env := launch0.env 0 0 0
theorem w_frames : about1.frames = Frame.invoking theMethod args0 :: below0 := rfl
set_option maxRecDepth 65536 in
theorem w_args : argsFit about1.vm theMethod args0 = true := by decide +kernel
set_option maxRecDepth 65536 in
theorem w_heap : heapFits about1 = true := by decide +kernel
set_option maxRecDepth 65536 in
theorem w_runnable : about1.curStatus? = some .runnable := by decide +kernel
set_option maxRecDepth 65536 in
theorem w_alone : about1.alone = true := by decide +kernel
set_option maxRecDepth 65536 in
theorem w_named : about1.methodNamed? x = some theMethod := by decide +kernel
set_option maxRecDepth 65536 in
theorem w_hears : about1.hears theMethod below0 = true := by decide +kernel
set_option maxRecDepth 65536 in
theorem w_ripe : about1.ripe theMethod args0 below0 = true := by decide +kernel
theorem w_running : about1.status = .running := rfl
set_option maxRecDepth 65536 in
theorem w_room : about1.hasRoom e0.platform room_1 = true :=
  launch0.hasRoom_least _ room_1 (by decide +kernel) (by decide +kernel) (by decide +kernel) (by decide +kernel) (by decide +kernel) (by decide +kernel)
theorem allAtoms_all (ts : List Jvm.Cond) (a : Array Jvm.Value) (st : Jvm.State) : (allAtoms ts).before a st = ts.all (fun c => c.before a st) := by
  induction ts with
  | nil => rfl
  | cons c t ih =>
    show (Jvm.Cond.and c (allAtoms t)).before a st = _
    rw [Jvm.Cond.before_and, ih, List.all_cons]
def words1 : List Jvm.Cond := Jvm.Cond.code x code maxLocals ret :: tables_1
/-- a 'code' word, met by the world's own term for the bytes: nothing is compared byte by byte -/
theorem code_word {y : MethodName} {bytes : ByteArray} {mx : Nat} {rt : Option FieldType} {a : Array Value} {s : State} {m : MethodId} {meth : Method} {c : Code} (h1 : s.methodNamed? y = some m) (h2 : s.vm.method? m = some meth) (h3 : meth.code = some c) (h4 : c.code = bytes)
    (h5 : (c.maxLocals == mx && c.exceptionTable.isEmpty && decide (c.maxStack ≤ mostOperands) && decide (meth.sig.returnType = rt) && !meth.locks && decide (parseMethodDescriptor y.desc = some meth.sig)) = true) : (Jvm.Cond.code y bytes mx rt).before a s = true := by
  simp only [Bool.and_eq_true, beq_iff_eq, Bool.not_eq_true', decide_eq_true_eq] at h5
  obtain ⟨⟨⟨⟨⟨g1, g2⟩, g3⟩, g4⟩, g5⟩, g6⟩ := h5
  simp [Cond.before, Cond.holds, Cond.value, h1, h2, h3, h4, g1, g2, g3, g4, g5, g6]
def isCode : Jvm.Cond → Bool
  | .code _ _ _ _ => true
  | _ => false
theorem all_split {L : List Jvm.Cond} {P : Jvm.Cond → Bool} (h1 : L.all (fun c => isCode c || P c) = true) (h2 : ∀ c ∈ L.filter isCode, P c = true) : L.all P = true := by
  refine List.all_eq_true.mpr fun c hc => ?_
  have h := List.all_eq_true.mp h1 c hc
  rcases Bool.eq_false_or_eq_true (isCode c) with hi | hi
  · exact h2 c (List.mem_filter.mpr ⟨hc, hi⟩)
  · simpa [hi] using h
set_option maxRecDepth 65536 in
theorem w_c0 : (Jvm.Cond.code x code maxLocals ret).before args0 about1 = true := code_word (m := ⟨1, 1⟩) (meth := k1m1) (c := k1c1) (by decide +kernel) rfl rfl rfl (by decide +kernel)
set_option maxRecDepth 65536 in
theorem w_c1 : (Jvm.Cond.code ({ cls := "com/example/equate/equate/mathml/Likeness", name := "likeness", desc := "(ZJJJJ)D" } : Jvm.MethodName) prog_25_method_3_code (15 : Nat) (Option.some Jvm.ClassFile.FieldType.double)).before args0 about1 = true := code_word (m := ⟨2, 1⟩) (meth := k2m1) (c := k2c1) (by decide +kernel) rfl rfl rfl (by decide +kernel)
set_option maxRecDepth 65536 in
theorem w_c2 : (Jvm.Cond.code ({ cls := "java/lang/Math", name := "multiplyExact", desc := "(JJ)J" } : Jvm.MethodName) jdk_29_method_30_code (10 : Nat) (Option.some Jvm.ClassFile.FieldType.long)).before args0 about1 = true := code_word (m := ⟨3, 2⟩) (meth := k3m2) (c := k3c2) (by decide +kernel) rfl rfl rfl (by decide +kernel)
set_option maxRecDepth 65536 in
theorem w_c3 : (Jvm.Cond.code ({ cls := "java/lang/Math", name := "abs", desc := "(J)J" } : Jvm.MethodName) jdk_29_method_61_code (2 : Nat) (Option.some Jvm.ClassFile.FieldType.long)).before args0 about1 = true := code_word (m := ⟨3, 3⟩) (meth := k3m3) (c := k3c3) (by decide +kernel) rfl rfl rfl (by decide +kernel)
set_option maxRecDepth 65536 in
theorem w_c4 : (Jvm.Cond.code ({ cls := "java/lang/Math", name := "addExact", desc := "(JJ)J" } : Jvm.MethodName) jdk_29_method_25_code (6 : Nat) (Option.some Jvm.ClassFile.FieldType.long)).before args0 about1 = true := code_word (m := ⟨3, 1⟩) (meth := k3m1) (c := k3c1) (by decide +kernel) rfl rfl rfl (by decide +kernel)
def codes1 : List Jvm.Cond := [Jvm.Cond.code x code maxLocals ret, Jvm.Cond.code ({ cls := "com/example/equate/equate/mathml/Likeness", name := "likeness", desc := "(ZJJJJ)D" } : Jvm.MethodName) prog_25_method_3_code (15 : Nat) (Option.some Jvm.ClassFile.FieldType.double), Jvm.Cond.code ({ cls := "java/lang/Math", name := "multiplyExact", desc := "(JJ)J" } : Jvm.MethodName) jdk_29_method_30_code (10 : Nat) (Option.some Jvm.ClassFile.FieldType.long), Jvm.Cond.code ({ cls := "java/lang/Math", name := "abs", desc := "(J)J" } : Jvm.MethodName) jdk_29_method_61_code (2 : Nat) (Option.some Jvm.ClassFile.FieldType.long), Jvm.Cond.code ({ cls := "java/lang/Math", name := "addExact", desc := "(JJ)J" } : Jvm.MethodName) jdk_29_method_25_code (6 : Nat) (Option.some Jvm.ClassFile.FieldType.long)]
set_option maxRecDepth 65536 in
theorem codes_eq : words1.filter isCode = codes1 := rfl
theorem w_codes : ∀ c ∈ words1.filter isCode, c.before args0 about1 = true := by
  rw [codes_eq]
  intro c hc
  simp only [codes1, List.mem_cons, List.not_mem_nil, or_false] at hc
  rcases hc with rfl | rfl | rfl | rfl | rfl
  · exact w_c0
  · exact w_c1
  · exact w_c2
  · exact w_c3
  · exact w_c4
set_option maxRecDepth 65536 in
theorem w_t1 : (words1.take 24).all (fun c => isCode c || c.before args0 about1) = true := by decide +kernel
set_option maxRecDepth 65536 in
theorem w_t2 : (words1.drop 24).all (fun c => isCode c || c.before args0 about1) = true := by decide +kernel
theorem w_tables : (allAtoms (Jvm.Cond.code x code maxLocals ret :: tables_1)).before args0 about1 = true := by
  rw [allAtoms_all]
  show words1.all (fun c => c.before args0 about1) = true
  refine all_split ?_ w_codes
  rw [← List.take_append_drop 24 words1, List.all_append, w_t1, w_t2]
  rfl
set_option maxRecDepth 65536 in
theorem w_case : (Jvm.Cond.and given_1 narrow_1).before args0 about1 = true := by decide +kernel
theorem w_applies : (headSpec (Jvm.Cond.code x code maxLocals ret :: tables_1) room_1).applies x e0.platform about1 = true :=
  (Spec.applies_iff w_frames).mpr ⟨w_running, w_runnable, w_alone, w_named, w_hears, w_ripe, w_room, w_tables⟩
theorem atStart : AtStart classFile x code maxLocals ret World_1 tables_1 room_1 Calls_1 rest_1 Pre_1 launch0 p0 e0 about1 theMethod args0 below0 :=
  ⟨lists_1, trivial, launch0.admits_env _ _ _, launch0.least_env, fairChoices_fair.cas, fairChoices_fair.clock, w_frames, w_args, w_heap, w_applies, trivial, trivial, w_case⟩
end start1
theorem witness_1 : WitnessClaimed_1 := ⟨start1.p0, start1.e0, start1.about1, start1.theMethod, start1.args0, start1.below0, start1.atStart⟩
end Jvm.Pilot.@@N@@
